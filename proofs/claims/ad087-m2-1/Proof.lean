import JvmDerived
import JvmDerived.Pilot.@@N@@Statement
import JvmDerived.Pilot.@@N@@Code
set_option linter.unusedVariables false
set_option linter.unusedSimpArgs false
/- laws to paste: Road.backV, Road.codOf (cut by pick.py; bodies as the Statement names them) -/
namespace Jvm.Pilot.@@N@@
namespace StrChars
open Jvm Sem ClassFile Op Lib Jvm.Stand Jvm.Free.XT Jvm.Free.ALB Jvm.Free.JM Jvm.Free
open Jvm.Lib.Cold (StaticIs)
/-- a char array whose places are chars -/
def Ch (a : Addr) (A : Cell) (U : State) : Prop := Arr .char a A U ∧ Typed .char A
theorem Ch.mv {a : Addr} {A : Cell} {U U' : State} (h : Ch a A U) (hal : U.vm.Alike U'.vm) (hh : U'.heap = U.heap) : Ch a A U' := ⟨h.1.mv hal hh, h.2⟩
theorem Ch.keep {a : Addr} {A : Cell} {U U' : State} (h : Ch a A U) (hal : U.vm.Alike U'.vm) (hk : U'.heap[a]? = some A) : Ch a A U' := ⟨h.1.keep hal hk, h.2⟩
/-- what place i of a char[]'s cell holds -/
def cv (A : Cell) (i : Nat) : Int32 := match A.slots[i]? with | some (.int x) => x | _ => 0
theorem Ch.get {a : Addr} {A : Cell} {U : State} (h : Ch a A U) {i : Nat} (hi : i < A.slots.size) : A.slots[i]? = some (.int (cv A i)) := by
  have e := Array.getElem?_eq_getElem hi
  have f := h.2 i _ e
  unfold cv; rw [e]
  generalize A.slots[i] = v at f
  cases v <;> simp [fits] at f ⊢
/-- the byte that i2b leaves of a char -/
def lo8 (x : Int32) : Int32 := x.toInt8.toInt32
theorem fits_lo8 (y : Int32) : fits .byte (.int (lo8 y)) = true := by
  have h1 := y.toInt8.le_toInt
  have h2 := y.toInt8.toInt_lt
  simp only [lo8, fits, Bool.and_eq_true, decide_eq_true_eq, Int32.le_iff_toInt_le, Int8.toInt_toInt32, show (-128 : Int32).toInt = -128 from by decide, show (127 : Int32).toInt = 127 from by decide]
  omega
/-- A' is A but that each place j of lo .. hi - 1 holds f j -/
def Laid (A A' : Cell) (lo hi : Nat) (f : Nat → Value) : Prop := A'.cls = A.cls ∧ A'.vm = A.vm ∧ A'.slots.size = A.slots.size ∧ ∀ i, A'.slots[i]? = if lo ≤ i ∧ i < hi then some (f i) else A.slots[i]?
theorem Laid.zero (A : Cell) (lo : Nat) (f : Nat → Value) : Laid A A lo (lo + 0) f := ⟨rfl, rfl, rfl, fun i => by rw [if_neg (by omega)]⟩
theorem Laid.step {A Ak : Cell} {lo k : Nat} {f : Nat → Value} {v : Value} (h : Laid A Ak lo k f) (hlo : lo ≤ k) (hk : k < Ak.slots.size) (hv : v = f k) : Laid A (Ak.setSlot k v) lo (k + 1) f := by
  refine ⟨h.1, h.2.1, by simpa [Cell.setSlot] using h.2.2.1, fun i => ?_⟩
  by_cases e : k = i
  · subst e; rw [Cell.slots_setSlot_self v hk, if_pos (by omega), hv]
  · rw [Cell.slots_setSlot_ne v e, h.2.2.2 i]
    by_cases q : lo ≤ i ∧ i < k
    · rw [if_pos q, if_pos (by omega)]
    · rw [if_neg q, if_neg (by omega)]
def U16 : String := "java/lang/StringUTF16"
namespace Cmp5
def yN : MethodName := ⟨"java/lang/StringUTF16", "compress", "([CI[BII)I"⟩
abbrev yB : ByteArray := jdk_52_method_21_code
theorem d0 : decode yB 0 = .ok (.iconst 0, 1) := by decide +kernel
theorem d1 : decode yB 1 = .ok (.istore 5, 2) := by decide +kernel
theorem d3 : decode yB 3 = .ok (.iload 5, 2) := by decide +kernel
theorem d5 : decode yB 5 = .ok (.iload 4, 2) := by decide +kernel
theorem d7 : decode yB 7 = .ok (.if_icmp (.ge) 37, 3) := by decide +kernel
theorem d10 : decode yB 10 = .ok (.aload_n 0, 1) := by decide +kernel
theorem d11 : decode yB 11 = .ok (.iload_n 1, 1) := by decide +kernel
theorem d12 : decode yB 12 = .ok (.caload, 1) := by decide +kernel
theorem d13 : decode yB 13 = .ok (.istore 6, 2) := by decide +kernel
theorem d15 : decode yB 15 = .ok (.iload 6, 2) := by decide +kernel
theorem d17 : decode yB 17 = .ok (.sipush 255, 3) := by decide +kernel
theorem d20 : decode yB 20 = .ok (.if_icmp (.le) 6, 3) := by decide +kernel
theorem d26 : decode yB 26 = .ok (.aload_n 2, 1) := by decide +kernel
theorem d27 : decode yB 27 = .ok (.iload_n 3, 1) := by decide +kernel
theorem d28 : decode yB 28 = .ok (.iload 6, 2) := by decide +kernel
theorem d30 : decode yB 30 = .ok (.i2b, 1) := by decide +kernel
theorem d31 : decode yB 31 = .ok (.bastore, 1) := by decide +kernel
theorem d32 : decode yB 32 = .ok (.iinc 1 1, 3) := by decide +kernel
theorem d35 : decode yB 35 = .ok (.iinc 3 1, 3) := by decide +kernel
theorem d38 : decode yB 38 = .ok (.iinc 5 1, 3) := by decide +kernel
theorem d41 : decode yB 41 = .ok (.goto (-38), 3) := by decide +kernel
theorem d44 : decode yB 44 = .ok (.iload 4, 2) := by decide +kernel
theorem d46 : decode yB 46 = .ok (.ireturn, 1) := by decide +kernel
def site : List Cond := []
def tab : Cond := tabOf yN yB 7 (some .int) site
def P (b : Addr) (A : Cell) (d : Addr) (B : Cell) (o q len : Nat) (args : Array Value) (s : State) : Prop := args = #[.ref b, .int (Int32.ofNat o), .ref d, .int (Int32.ofNat q), .int (Int32.ofNat len)] ∧ Ch b A s ∧ Arr .byte d B s ∧ b ≠ d ∧ o + len ≤ A.slots.size ∧ q + len ≤ B.slots.size ∧ ∀ i, i < len → ¬ 255 < cv A (o + i)
def E (b : Addr) (A : Cell) (d : Addr) (B : Cell) (o q len : Nat) (r : Option Value) (s u : State) : Prop := r = some (.int (Int32.ofNat len)) ∧ ∃ B', Put d B' s u ∧ Laid B B' q (q + len) (fun j => Value.int (lo8 (cv A (o + (j - q)))))
/-- no char of the range above 255: len; the places written hold each char's low byte -/
theorem law (l : Launch) (b : Addr) (A : Cell) (d : Addr) (B : Cell) (o q len : Nat) : Law l yN 5 5 0 0 yB 7 (some .int) site (P b A d B o q len) (E b A d B o q len) (copyLocs d q len) 0 0 := by
  refine Law.of_walk (plainFor_of_name (by decide +kernel)) (by decide +kernel) (by decide +kernel) (by decide) (fun _ _ h => by rw [h.1]; rfl) (fun _ U U' hal hh h => ⟨h.1, h.2.1.mv hal hh, h.2.2.1.mv hal hh, h.2.2.2⟩) (fun r U U' V V' h1 hal h2 h => ⟨h.1, h.2.elim fun B' q => ⟨B', q.1.mv h1 h2, q.2⟩⟩) ?_
  intro p e s m args below meth c s₁ X0 hexec hbytes hml hret hlk hnm hown hh0 W hP
  obtain ⟨rfl, hA, hB, hne, l1, l2, hp⟩ := hP
  have c1 : Steps p.tables e below (s₁.setTop (entryFrame m #[.ref b, .int (Int32.ofNat o), .ref d, .int (Int32.ofNat q), .int (Int32.ofNat len)] 7)) (s₁.setTop (mkF m 0 #[.val (.ref b), .val (.int (Int32.ofNat o)), .val (.ref d), .val (.int (Int32.ofNat q)), .val (.int (Int32.ofNat len)), .unset, .unset] [])) := entry rfl
  have hA0 := hA.1.mv X0.warmed.alike hh0
  have hB0 := hB.mv X0.warmed.alike hh0
  have a31 := hA.1.2.2.2
  have c2 : Steps p.tables e below (s₁.setTop (entryFrame m #[.ref b, .int (Int32.ofNat o), .ref d, .int (Int32.ofNat q), .int (Int32.ofNat len)] 7)) (s₁.setTop (mkF m 3 #[.val (.ref b), .val (.int (Int32.ofNat o)), .val (.ref d), .val (.int (Int32.ofNat q)), .val (.int (Int32.ofNat len)), .val (.int 0), .unset] [])) := c1.trans (by
    refine iconstV X0.here hexec rfl 0 (hb hbytes d0) (by decide) ?_
    refine XS.istore X0.here hexec rfl (hb hbytes d1) rfl rfl ?_
    exact Steps.refl _)
  have loop : ∀ (r i : Nat), i + r = len → ∀ (z : Slot), (z = .unset ∨ ∃ w, z = .val w ∧ w.category = 1) → ∀ (Tl : State) (Bk : Cell), Stand p l e { frames := 0, locals := 0, cells := 0, slots := 0 } s m #[.ref b, .int (Int32.ofNat o), .ref d, .int (Int32.ofNat q), .int (Int32.ofNat len)] below meth c Tl ([] ++ copyLocs d q i) 0 0 → Put d Bk s₁ Tl → Laid B Bk q (q + i) (fun j => Value.int (lo8 (cv A (o + (j - q))))) →
      Steps p.tables e below (s₁.setTop (entryFrame m #[.ref b, .int (Int32.ofNat o), .ref d, .int (Int32.ofNat q), .int (Int32.ofNat len)] 7)) (Tl.setTop (mkF m 3 #[.val (.ref b), .val (.int (Int32.ofNat (o + i))), .val (.ref d), .val (.int (Int32.ofNat (q + i))), .val (.int (Int32.ofNat len)), .val (.int (Int32.ofNat i)), z] [])) → ∃ (T' : State) (B' : Cell) (z' : Slot), Stand p l e { frames := 0, locals := 0, cells := 0, slots := 0 } s m #[.ref b, .int (Int32.ofNat o), .ref d, .int (Int32.ofNat q), .int (Int32.ofNat len)] below meth c T' ([] ++ copyLocs d q len) 0 0 ∧ Put d B' s₁ T' ∧ Laid B B' q (q + len) (fun j => Value.int (lo8 (cv A (o + (j - q))))) ∧
      Steps p.tables e below (s₁.setTop (entryFrame m #[.ref b, .int (Int32.ofNat o), .ref d, .int (Int32.ofNat q), .int (Int32.ofNat len)] 7)) (T'.setTop (mkF m 3 #[.val (.ref b), .val (.int (Int32.ofNat (o + len))), .val (.ref d), .val (.int (Int32.ofNat (q + len))), .val (.int (Int32.ofNat len)), .val (.int (Int32.ofNat len)), z'] [])) := by
    intro r
    induction r with
    | zero =>
      intro i hi z hz Tl Bk Xl pl fl cl
      have hil : i = len := by omega
      rw [hil] at Xl fl cl
      exact ⟨Tl, Bk, z, Xl, pl, fl, cl⟩
    | succ r ih =>
      intro i hi z hz Tl Bk Xl pl fl cl
      have all := X0.warmed.alike.symm.trans Xl.warmed.alike
      have hAl := hA0.keep all (pl.other hne hA0.1)
      have hBk := hB0.like all pl.1 fl.1 fl.2.1 fl.2.2.1
      have hlt : q + i < Bk.slots.size := by rw [fl.2.2.1]; omega
      have c3 : Steps p.tables e below (s₁.setTop (entryFrame m #[.ref b, .int (Int32.ofNat o), .ref d, .int (Int32.ofNat q), .int (Int32.ofNat len)] 7)) (Tl.setTop (mkF m 12 #[.val (.ref b), .val (.int (Int32.ofNat (o + i))), .val (.ref d), .val (.int (Int32.ofNat (q + i))), .val (.int (Int32.ofNat len)), .val (.int (Int32.ofNat i)), z] [.int (Int32.ofNat (o + i)), .ref b])) := cl.trans (by
        refine XS.iload Xl.here hexec rfl (hb hbytes d3) rfl ?_
        refine XS.iload Xl.here hexec rfl (hb hbytes d5) rfl ?_
        refine XS.icmpNo Xl.here hexec rfl (hb hbytes d7) rfl (ii_ge_f (lt32 (by omega) (by omega))) ?_
        refine XS.aloadN Xl.here hexec rfl (hb hbytes d10) rfl rfl ?_
        refine XS.iloadN Xl.here hexec rfl (hb hbytes d11) rfl ?_
        exact Steps.refl _)
      have c4 : Steps p.tables e below (s₁.setTop (entryFrame m #[.ref b, .int (Int32.ofNat o), .ref d, .int (Int32.ofNat q), .int (Int32.ofNat len)] 7)) (Tl.setTop (mkF m 13 #[.val (.ref b), .val (.int (Int32.ofNat (o + i))), .val (.ref d), .val (.int (Int32.ofNat (q + i))), .val (.int (Int32.ofNat len)), .val (.int (Int32.ofNat i)), z] [.int (cv A (o + i))])) := c3.trans (by
        refine Xl.aget hexec hAl rfl (hA.get (i := o + i) (by omega)) rfl rfl (hb hbytes d12) ?_
        exact Steps.refl _)
      have c5 : Steps p.tables e below (s₁.setTop (entryFrame m #[.ref b, .int (Int32.ofNat o), .ref d, .int (Int32.ofNat q), .int (Int32.ofNat len)] 7)) (Tl.setTop (mkF m 15 #[.val (.ref b), .val (.int (Int32.ofNat (o + i))), .val (.ref d), .val (.int (Int32.ofNat (q + i))), .val (.int (Int32.ofNat len)), .val (.int (Int32.ofNat i)), .val (.int (cv A (o + i)))] [])) := c4.trans (by
        refine XS.istoreS Xl.here hexec rfl (hb hbytes d13) rfl rfl hz ?_
        exact Steps.refl _)
      have c6 : Steps p.tables e below (s₁.setTop (entryFrame m #[.ref b, .int (Int32.ofNat o), .ref d, .int (Int32.ofNat q), .int (Int32.ofNat len)] 7)) (Tl.setTop (mkF m 31 #[.val (.ref b), .val (.int (Int32.ofNat (o + i))), .val (.ref d), .val (.int (Int32.ofNat (q + i))), .val (.int (Int32.ofNat len)), .val (.int (Int32.ofNat i)), .val (.int (cv A (o + i)))] [.int (lo8 (cv A (o + i))), .int (Int32.ofNat (q + i)), .ref d])) := c5.trans (by
        refine XS.iload Xl.here hexec rfl (hb hbytes d15) rfl ?_
        refine sipushV Xl.here hexec rfl 255 (hb hbytes d17) (by decide) ?_
        refine XS.icmpYes Xl.here hexec rfl (pc0 := 20) rfl (hb hbytes d20) rfl (ii_le_t (hp i (by omega))) (by decide) rfl ?_
        refine XS.aloadN Xl.here hexec rfl (hb hbytes d26) rfl rfl ?_
        refine XS.iloadN Xl.here hexec rfl (hb hbytes d27) rfl ?_
        refine XS.iload Xl.here hexec rfl (hb hbytes d28) rfl ?_
        refine i2b Xl.here hexec rfl (hb hbytes d30) rfl ?_
        exact Steps.refl _)
      obtain ⟨T7, X7, p7, st7⟩ := Xl.aput hexec hBk rfl hlt rfl (fits_lo8 (cv A (o + i))) (g := (mkF m 31 #[.val (.ref b), .val (.int (Int32.ofNat (o + i))), .val (.ref d), .val (.int (Int32.ofNat (q + i))), .val (.int (Int32.ofNat len)), .val (.int (Int32.ofNat i)), .val (.int (cv A (o + i)))] [.int (lo8 (cv A (o + i))), .int (Int32.ofNat (q + i)), .ref d])) rfl (rest := []) rfl (hb hbytes d31)
      have c8 : Steps p.tables e below (s₁.setTop (entryFrame m #[.ref b, .int (Int32.ofNat o), .ref d, .int (Int32.ofNat q), .int (Int32.ofNat len)] 7)) (T7.setTop (mkF m 32 #[.val (.ref b), .val (.int (Int32.ofNat (o + i))), .val (.ref d), .val (.int (Int32.ofNat (q + i))), .val (.int (Int32.ofNat len)), .val (.int (Int32.ofNat i)), .val (.int (cv A (o + i)))] [])) := c6.trans (st7 _ (Steps.refl _))
      have c9 : Steps p.tables e below (s₁.setTop (entryFrame m #[.ref b, .int (Int32.ofNat o), .ref d, .int (Int32.ofNat q), .int (Int32.ofNat len)] 7)) (T7.setTop (mkF m 3 #[.val (.ref b), .val (.int (Int32.ofNat (o + i) + 1)), .val (.ref d), .val (.int (Int32.ofNat (q + i) + 1)), .val (.int (Int32.ofNat len)), .val (.int (Int32.ofNat i + 1)), .val (.int (cv A (o + i)))] [])) := c8.trans (by
        refine iincV X7.here hexec rfl 1 (hb hbytes d32) (by decide) rfl rfl ?_
        refine iincV X7.here hexec rfl 1 (hb hbytes d35) (by decide) rfl rfl ?_
        refine iincV X7.here hexec rfl 1 (hb hbytes d38) (by decide) rfl rfl ?_
        refine XS.goto X7.here hexec rfl (pc0 := 41) rfl (hb hbytes d41) (by decide) rfl ?_
        exact Steps.refl _)
      have c10 : Steps p.tables e below (s₁.setTop (entryFrame m #[.ref b, .int (Int32.ofNat o), .ref d, .int (Int32.ofNat q), .int (Int32.ofNat len)] 7)) (T7.setTop (mkF m 3 #[.val (.ref b), .val (.int (Int32.ofNat (o + (i + 1)))), .val (.ref d), .val (.int (Int32.ofNat (q + (i + 1)))), .val (.int (Int32.ofNat len)), .val (.int (Int32.ofNat (i + 1))), .val (.int (cv A (o + i)))] [])) := by
        have := c9
        rw [succ32, succ32, succ32] at this
        exact this
      exact ih (i + 1) (by omega) _ (Or.inr ⟨_, rfl, rfl⟩) T7 _ (by rw [copyLocs_step, ← List.append_assoc]; exact X7) (pl.trans p7) (fl.step (by omega) hlt (by simp)) c10
  obtain ⟨T9, B9, z9, X9, p9, f9, g9⟩ := loop len 0 (by omega) .unset (Or.inl rfl) s₁ B (by simpa [copyLocs] using X0) ⟨hB0.1, fun _ _ => rfl, rfl⟩ (Laid.zero _ _ _) c2
  have c11 : Steps p.tables e below (s₁.setTop (entryFrame m #[.ref b, .int (Int32.ofNat o), .ref d, .int (Int32.ofNat q), .int (Int32.ofNat len)] 7)) (T9.setTop (mkF m 46 #[.val (.ref b), .val (.int (Int32.ofNat (o + len))), .val (.ref d), .val (.int (Int32.ofNat (q + len))), .val (.int (Int32.ofNat len)), .val (.int (Int32.ofNat len)), z9] [.int (Int32.ofNat len)])) := g9.trans (by
    refine XS.iload X9.here hexec rfl (hb hbytes d3) rfl ?_
    refine XS.iload X9.here hexec rfl (hb hbytes d5) rfl ?_
    refine XS.icmpYes X9.here hexec rfl (pc0 := 7) rfl (hb hbytes d7) rfl (ii_ge_t (nlt32 (by omega) (Nat.le_refl _))) (by decide) rfl ?_
    refine XS.iload X9.here hexec rfl (hb hbytes d44) rfl ?_
    exact Steps.refl _)
  exact ⟨T9, some (.int (Int32.ofNat len)), _, _, _, X9, by simp, rfl, rfl, (fun h => by cases h), ⟨rfl, B9, p9.from hh0, f9⟩, fun fs hl => c11.trans (X9.ireturnOut hexec hret rfl (Or.inl rfl) (hb hbytes d46) hl)⟩
end Cmp5
namespace Cmp3
def yN : MethodName := ⟨"java/lang/StringUTF16", "compress", "([CII)[B"⟩
abbrev yB : ByteArray := jdk_52_method_16_code
theorem d0 : decode yB 0 = .ok (.iload_n 2, 1) := by decide +kernel
theorem d1 : decode yB 1 = .ok (.newarray .byte, 2) := by decide +kernel
theorem d3 : decode yB 3 = .ok (.astore_n 3, 1) := by decide +kernel
theorem d4 : decode yB 4 = .ok (.aload_n 0, 1) := by decide +kernel
theorem d5 : decode yB 5 = .ok (.iload_n 1, 1) := by decide +kernel
theorem d6 : decode yB 6 = .ok (.aload_n 3, 1) := by decide +kernel
theorem d7 : decode yB 7 = .ok (.iconst 0, 1) := by decide +kernel
theorem d8 : decode yB 8 = .ok (.iload_n 2, 1) := by decide +kernel
theorem d9 : decode yB 9 = .ok (.invokestatic 115, 3) := by decide +kernel
theorem d12 : decode yB 12 = .ok (.istore 4, 2) := by decide +kernel
theorem d14 : decode yB 14 = .ok (.iload 4, 2) := by decide +kernel
theorem d16 : decode yB 16 = .ok (.iload_n 2, 1) := by decide +kernel
theorem d17 : decode yB 17 = .ok (.if_icmp (.eq) 40, 3) := by decide +kernel
theorem d57 : decode yB 57 = .ok (.aload_n 3, 1) := by decide +kernel
theorem d58 : decode yB 58 = .ok (.areturn, 1) := by decide +kernel
def site : List Cond := [.arrayClass .byte, Cmp5.tab] ++ staticW U16 115 Cmp5.yN
def tab : Cond := tabOf yN yB 6 (some (.array .byte)) site
def P (b : Addr) (A : Cell) (o len : Nat) (args : Array Value) (s : State) : Prop := args = #[.ref b, .int (Int32.ofNat o), .int (Int32.ofNat len)] ∧ Ch b A s ∧ o + len ≤ A.slots.size ∧ len ≤ 536870912 ∧ ∀ i, i < len → ¬ 255 < cv A (o + i)
def E (b : Addr) (A : Cell) (o len : Nat) (r : Option Value) (s u : State) : Prop := NewArr .byte "[B" len (fun j => .int (lo8 (cv A (o + j)))) r s u ∧ u.heap.size = s.heap.size + 1
/-- no char of the range above 255: a new byte[] of their low bytes -/
theorem law (l : Launch) (b : Addr) (A : Cell) (o len : Nat) : Law l yN 3 3 1 18 yB 6 (some (.array .byte)) site (P b A o len) (E b A o len) [] 1 len := by
  refine Law.of_walk (plainFor_of_name (by decide +kernel)) (by decide +kernel) (by decide +kernel) (by decide) (fun _ _ h => by rw [h.1]; rfl) (fun _ U U' hal hh h => ⟨h.1, h.2.1.mv hal hh, h.2.2⟩) (fun r U U' V V' h1 hal h2 h => ⟨NewArr.mv r U U' V V' h1 hal h2 h.1, by rw [h1, h2]; exact h.2⟩) ?_
  intro p e s m args below meth c s₁ X0 hexec hbytes hml hret hlk hnm hown hh0 W hP
  obtain ⟨rfl, hA, l1, l2, hp⟩ := hP
  have a31 := hA.1.2.2.2
  have c1 : Steps p.tables e below (s₁.setTop (entryFrame m #[.ref b, .int (Int32.ofNat o), .int (Int32.ofNat len)] 6)) (s₁.setTop (mkF m 0 #[.val (.ref b), .val (.int (Int32.ofNat o)), .val (.int (Int32.ofNat len)), .unset, .unset, .unset] [])) := entry rfl
  have c2 : Steps p.tables e below (s₁.setTop (entryFrame m #[.ref b, .int (Int32.ofNat o), .int (Int32.ofNat len)] 6)) (s₁.setTop (mkF m 1 #[.val (.ref b), .val (.int (Int32.ofNat o)), .val (.int (Int32.ofNat len)), .unset, .unset, .unset] [.int (Int32.ofNat len)])) := c1.trans (by
    refine XS.iloadN X0.here hexec rfl (hb hbytes d0) rfl ?_
    exact Steps.refl _)
  obtain ⟨T3, B3, X3, ba3, bs3, bv3, bh3, bf3, st3⟩ := X0.anew hexec (atype := .byte) (wk W (.arrayClass .byte)) rfl (by show len * 1 ≤ _; omega) (by omega) (g := (mkF m 1 #[.val (.ref b), .val (.int (Int32.ofNat o)), .val (.int (Int32.ofNat len)), .unset, .unset, .unset] [.int (Int32.ofNat len)])) rfl (hb hbytes d1) (rest := []) rfl (Nat.le_refl _) (by show 0 + len ≤ len; omega)
  rw [hh0] at ba3 st3
  have kp3 : XT.Kept s T3 := (XT.Kept.of_eq hh0).push bh3
  have hA3 := hA.keep X3.warmed.alike (kp3 _ _ hA.1.1)
  have hne : b ≠ s.heap.size := hA.1.ne
  have c4 : Steps p.tables e below (s₁.setTop (entryFrame m #[.ref b, .int (Int32.ofNat o), .int (Int32.ofNat len)] 6)) (T3.setTop (mkF m 3 #[.val (.ref b), .val (.int (Int32.ofNat o)), .val (.int (Int32.ofNat len)), .unset, .unset, .unset] [.ref s.heap.size])) := c2.trans (st3 _ (Steps.refl _))
  have c5 : Steps p.tables e below (s₁.setTop (entryFrame m #[.ref b, .int (Int32.ofNat o), .int (Int32.ofNat len)] 6)) (T3.setTop (mkF m 9 #[.val (.ref b), .val (.int (Int32.ofNat o)), .val (.int (Int32.ofNat len)), .val (.ref s.heap.size), .unset, .unset] [.int (Int32.ofNat len), .int 0, .ref s.heap.size, .int (Int32.ofNat o), .ref b])) := c4.trans (by
    refine XS.astoreN X3.here hexec rfl (hb hbytes d3) rfl rfl rfl ?_
    refine XS.aloadN X3.here hexec rfl (hb hbytes d4) rfl rfl ?_
    refine XS.iloadN X3.here hexec rfl (hb hbytes d5) rfl ?_
    refine XS.aloadN X3.here hexec rfl (hb hbytes d6) rfl rfl ?_
    refine iconstV X3.here hexec rfl 0 (hb hbytes d7) (by decide) ?_
    refine XS.iloadN X3.here hexec rfl (hb hbytes d8) rfl ?_
    exact Steps.refl _)
  obtain ⟨v6, T6, X6, E6, g6⟩ := X3.callS hexec (Cmp5.law l b A s.heap.size B3 o 0 len) hown (wks W (staticW U16 115 Cmp5.yN)) (wk W Cmp5.tab) (W := 0) (Nat.le_of_ble_eq_true rfl) (Nat.le_of_ble_eq_true rfl) (Nat.le_refl _) (by show 0 + len + 0 ≤ len; omega) (g := (mkF m 9 #[.val (.ref b), .val (.int (Int32.ofNat o)), .val (.int (Int32.ofNat len)), .val (.ref s.heap.size), .unset, .unset] [.int (Int32.ofNat len), .int (Int32.ofNat 0), .ref s.heap.size, .int (Int32.ofNat o), .ref b])) rfl (by rw [hml]; rfl) c5 (argsL := [.ref b, .int (Int32.ofNat o), .ref s.heap.size, .int (Int32.ofNat 0), .int (Int32.ofNat len)]) (rest := []) rfl rfl (by show 2 * 0 + 0 ≤ _; decide) (hb hbytes d9) (⟨rfl, hA3, ba3, hne, l1, by rw [bs3]; simp, hp⟩)
  obtain ⟨rfl, B6, p6, f6⟩ := E6
  have c7 : Steps p.tables e below (s₁.setTop (entryFrame m #[.ref b, .int (Int32.ofNat o), .int (Int32.ofNat len)] 6)) (T6.setTop (mkF m 12 #[.val (.ref b), .val (.int (Int32.ofNat o)), .val (.int (Int32.ofNat len)), .val (.ref s.heap.size), .unset, .unset] [.int (Int32.ofNat len)])) := g6
  have c8 : Steps p.tables e below (s₁.setTop (entryFrame m #[.ref b, .int (Int32.ofNat o), .int (Int32.ofNat len)] 6)) (T6.setTop (mkF m 58 #[.val (.ref b), .val (.int (Int32.ofNat o)), .val (.int (Int32.ofNat len)), .val (.ref s.heap.size), .val (.int (Int32.ofNat len)), .unset] [.ref s.heap.size])) := c7.trans (by
    refine XS.istore X6.here hexec rfl (hb hbytes d12) rfl rfl ?_
    refine XS.iload X6.here hexec rfl (hb hbytes d14) rfl ?_
    refine XS.iloadN X6.here hexec rfl (hb hbytes d16) rfl ?_
    refine XS.icmpYes X6.here hexec rfl (pc0 := 17) rfl (hb hbytes d17) rfl (ii_eq_t rfl) (by decide) rfl ?_
    refine XS.aloadN X6.here hexec rfl (hb hbytes d57) rfl rfl ?_
    exact Steps.refl _)
  have X8 := X6.wide (L' := []) (cells' := 1) (slots' := len) (fun x hx hlt => by
    simp only [List.nil_append, copyLocs, List.mem_map, List.mem_range] at hx
    obtain ⟨i, -, rfl⟩ := hx
    exact absurd hlt (Nat.lt_irrefl _)) (Nat.le_refl _) (by omega)
  exact ⟨T6, some (.ref s.heap.size), _, _, _, X8, rfl, rfl, rfl, (fun h => by cases h), ⟨⟨rfl, B6, ba3.like (X3.warmed.alike.symm.trans X6.warmed.alike) p6.1 f6.1 f6.2.1 f6.2.2.1, f6.2.1.trans bv3, by rw [X6.warmed.alike.findClass, f6.1]; exact bf3, by rw [f6.2.2.1, bs3]; simp, fun j hj => by rw [f6.2.2.2 j, if_pos (by omega)]; rfl, kp3.put p6 (Nat.le_refl _)⟩, by rw [p6.2.2, bh3, hh0]; simp⟩, fun fs hl => c8.trans (X8.areturnOut hexec rfl hret rfl (hb hbytes d58) hl)⟩
end Cmp3
namespace CodL
def yN : MethodName := ⟨"java/lang/StringUTF16", "coderFromArrayLen", "([BI)B"⟩
abbrev yB : ByteArray := jdk_52_method_15_code
theorem d0 : decode yB 0 = .ok (.iload_n 1, 1) := by decide +kernel
theorem d1 : decode yB 1 = .ok (.aload_n 0, 1) := by decide +kernel
theorem d2 : decode yB 2 = .ok (.arraylength, 1) := by decide +kernel
theorem d3 : decode yB 3 = .ok (.isub, 1) := by decide +kernel
theorem d4 : decode yB 4 = .ok (.bipush 31, 2) := by decide +kernel
theorem d6 : decode yB 6 = .ok (.iushr, 1) := by decide +kernel
theorem d7 : decode yB 7 = .ok (.i2b, 1) := by decide +kernel
theorem d8 : decode yB 8 = .ok (.ireturn, 1) := by decide +kernel
def site : List Cond := []
def tab : Cond := tabOf yN yB 2 (some .byte) site
def P (d : Addr) (B : Cell) (args : Array Value) (s : State) : Prop := args = #[.ref d, .int (Int32.ofNat B.slots.size)] ∧ Arr .byte d B s
def E (r : Option Value) (s u : State) : Prop := XT.PureE (some (.int 0)) r s u
/-- an array as long as the number of chars: LATIN1 -/
theorem law (l : Launch) (d : Addr) (B : Cell) : Law l yN 2 2 0 0 yB 2 (some .byte) site (P d B) E [] 0 0 := by
  refine Law.of_walk (plainFor_of_name (by decide +kernel)) (by decide +kernel) (by decide +kernel) (by decide) (fun _ _ h => by rw [h.1]; rfl) (fun _ U U' hal hh h => ⟨h.1, h.2.mv hal hh⟩) (fun r U U' V V' h1 hal h2 h => XT.PureE.mv r U U' V V' h1 hal h2 h) ?_
  intro p e s m args below meth c s₁ X0 hexec hbytes hml hret hlk hnm hown hh0 W hP
  obtain ⟨rfl, hB⟩ := hP
  have hB0 := hB.mv X0.warmed.alike hh0
  have c1 : Steps p.tables e below (s₁.setTop (entryFrame m #[.ref d, .int (Int32.ofNat B.slots.size)] 2)) (s₁.setTop (mkF m 0 #[.val (.ref d), .val (.int (Int32.ofNat B.slots.size))] [])) := entry rfl
  have c2 : Steps p.tables e below (s₁.setTop (entryFrame m #[.ref d, .int (Int32.ofNat B.slots.size)] 2)) (s₁.setTop (mkF m 2 #[.val (.ref d), .val (.int (Int32.ofNat B.slots.size))] [.ref d, .int (Int32.ofNat B.slots.size)])) := c1.trans (by
    refine XS.iloadN X0.here hexec rfl (hb hbytes d0) rfl ?_
    refine XS.aloadN X0.here hexec rfl (hb hbytes d1) rfl rfl ?_
    exact Steps.refl _)
  have c3 : Steps p.tables e below (s₁.setTop (entryFrame m #[.ref d, .int (Int32.ofNat B.slots.size)] 2)) (s₁.setTop (mkF m 8 #[.val (.ref d), .val (.int (Int32.ofNat B.slots.size))] [.int (lo8 (ushr (Int32.ofNat B.slots.size - Int32.ofNat B.slots.size) 31))])) := c2.trans (by
    refine X0.alen hexec hB0 rfl rfl (hb hbytes d2) ?_
    refine XS.isub X0.here hexec rfl (hb hbytes d3) rfl ?_
    refine bipushV X0.here hexec rfl 31 (hb hbytes d4) (by decide) ?_
    refine iushr X0.here hexec rfl (hb hbytes d6) rfl ?_
    refine i2b X0.here hexec rfl (hb hbytes d7) rfl ?_
    exact Steps.refl _)
  have e0 : lo8 (ushr (Int32.ofNat B.slots.size - Int32.ofNat B.slots.size) 31) = 0 := by rw [Int32.sub_self]; decide
  rw [e0] at c3
  exact ⟨s₁, some (.int 0), _, _, _, X0, rfl, rfl, rfl, (fun h => by cases h), ⟨rfl, hh0⟩, fun fs hl => c3.trans (X0.ireturnOut hexec hret rfl (Or.inr (Or.inr (Or.inl rfl))) (hb hbytes d8) hl)⟩
end CodL
/-- the String at a is Latin-1 over a new byte[] (the heap's one new cell): the low bytes of the len chars of A from o on; every cell but a is kept -/
def Got (a : Addr) (D : Cell) (fV fC : Field) (A : Cell) (o len : Nat) (r : Option Value) (s u : State) : Prop := r = none ∧ ∃ D' V : Cell, Blank "java/lang/String" a D' u ∧ Same D D' [fV.slot, fC.slot] ∧ D'.slots[fV.slot]? = some (.ref s.heap.size) ∧ D'.slots[fC.slot]? = some (.int 0) ∧ Arr .byte s.heap.size V u ∧ V.vm = .none ∧ u.vm.findClass "[B" = some V.cls ∧ V.slots.size = len ∧ (∀ j, j < len → V.slots[j]? = some (.int (lo8 (cv A (o + j))))) ∧ (∀ (y : Addr) (c : Cell), y ≠ a → s.heap[y]? = some c → u.heap[y]? = some c) ∧ u.heap.size = s.heap.size + 1
theorem Got.mv {a : Addr} {D A : Cell} {fV fC : Field} {o len : Nat} : ∀ r (U U' V V' : State), U'.heap = U.heap → V.vm.Alike V'.vm → V'.heap = V.heap → Got a D fV fC A o len r U V → Got a D fV fC A o len r U' V' :=
  fun r U U' V V' h1 hal h2 ⟨e0, D', X, a1, a2, a3, a4, a5, a6, a7, a8, a9, a10, a11⟩ => ⟨e0, D', X, a1.mv hal h2, a2, by rw [h1]; exact a3, a4, by rw [h1]; exact a5.mv hal h2, a6, by rw [hal.findClass]; exact a7, a8, a9, by rw [h1, h2]; exact a10, by rw [h1, h2]; exact a11⟩
namespace New4
def yN : MethodName := ⟨"java/lang/String", "<init>", "([CIILjava/lang/Void;)V"⟩
abbrev yB : ByteArray := jdk_42_method_149_code
theorem d0 : decode yB 0 = .ok (.aload_n 0, 1) := by decide +kernel
theorem d1 : decode yB 1 = .ok (.invokespecial 1, 3) := by decide +kernel
theorem d4 : decode yB 4 = .ok (.iload_n 3, 1) := by decide +kernel
theorem d5 : decode yB 5 = .ok (.ifCond (.ne) 22, 3) := by decide +kernel
theorem d27 : decode yB 27 = .ok (.getstatic 38, 3) := by decide +kernel
theorem d30 : decode yB 30 = .ok (.ifCond (.eq) 28, 3) := by decide +kernel
theorem d33 : decode yB 33 = .ok (.aload_n 1, 1) := by decide +kernel
theorem d34 : decode yB 34 = .ok (.iload_n 2, 1) := by decide +kernel
theorem d35 : decode yB 35 = .ok (.iload_n 3, 1) := by decide +kernel
theorem d36 : decode yB 36 = .ok (.invokestatic 177, 3) := by decide +kernel
theorem d39 : decode yB 39 = .ok (.astore 5, 2) := by decide +kernel
theorem d41 : decode yB 41 = .ok (.aload_n 0, 1) := by decide +kernel
theorem d42 : decode yB 42 = .ok (.aload 5, 2) := by decide +kernel
theorem d44 : decode yB 44 = .ok (.iload_n 3, 1) := by decide +kernel
theorem d45 : decode yB 45 = .ok (.invokestatic 47, 3) := by decide +kernel
theorem d48 : decode yB 48 = .ok (.putfield 15, 3) := by decide +kernel
theorem d51 : decode yB 51 = .ok (.aload_n 0, 1) := by decide +kernel
theorem d52 : decode yB 52 = .ok (.aload 5, 2) := by decide +kernel
theorem d54 : decode yB 54 = .ok (.putfield 9, 3) := by decide +kernel
theorem d57 : decode yB 57 = .ok (.return_, 1) := by decide +kernel
def site : List Cond := [.fieldLink "java/lang/String" 38 "java/lang/String" "COMPACT_STRINGS" "Z", Cmp3.tab, CodL.tab, .laysFinal "java/lang/String" "java/lang/String" "value" "[B", .fieldLink "java/lang/String" 9 "java/lang/String" "value" "[B", .laysFinal "java/lang/String" "java/lang/String" "coder" "B", .fieldLink "java/lang/String" 15 "java/lang/String" "coder" "B"] ++ objW "java/lang/String" 1 ++ staticW "java/lang/String" 177 Cmp3.yN ++ staticW "java/lang/String" 47 CodL.yN
def tab : Cond := tabOf yN yB 6 none site
def P (a : Addr) (D : Cell) (fV fC : Field) (b : Addr) (A : Cell) (z : Int32) (o len : Nat) (args : Array Value) (s : State) : Prop := args = #[.ref a, .ref b, .int (Int32.ofNat o), .int (Int32.ofNat len), .null] ∧ Blank "java/lang/String" a D s ∧ Found "java/lang/String" "value" "[B" fV s ∧ Found "java/lang/String" "coder" "B" fC s ∧ Ch b A s ∧ StaticIs s "java/lang/String" "COMPACT_STRINGS" "Z" (.int z) ∧ ¬ z = 0 ∧ 0 < len ∧ o + len ≤ A.slots.size ∧ len ≤ 536870912 ∧ ∀ i, i < len → ¬ 255 < cv A (o + i)
def E (a : Addr) (D : Cell) (fV fC : Field) (A : Cell) (o len : Nat) (r : Option Value) (s u : State) : Prop := Got a D fV fC A o len r s u
/-- len > 0, no char of the range above 255: a Latin-1 String of their low bytes -/
theorem law (l : Launch) (a : Addr) (D : Cell) (fV fC : Field) (b : Addr) (A : Cell) (z : Int32) (o len : Nat) : Law l yN 5 4 2 35 yB 6 none site (P a D fV fC b A z o len) (E a D fV fC A o len) [⟨a, fC.slot⟩, ⟨a, fV.slot⟩] 1 len := by
  refine Law.of_walk (plainFor_of_name (by decide +kernel)) (by decide +kernel) (by decide +kernel) (by decide) (fun _ _ h => by rw [h.1]; rfl) (fun _ U U' hal hh h => ⟨h.1, h.2.1.mv hal hh, h.2.2.1.al hal, h.2.2.2.1.al hal, h.2.2.2.2.1.mv hal hh, h.2.2.2.2.2.1.there hal hh, h.2.2.2.2.2.2⟩) (fun r U U' V V' h1 hal h2 h => Got.mv r U U' V V' h1 hal h2 h) ?_
  intro p e s m args below meth c s₁ X0 hexec hbytes hml hret hlk hnm hown hh0 W hP
  obtain ⟨rfl, hB, f1, f2, hA, s1, hz, l0, l1, l2, hp⟩ := hP
  have a31 := hA.1.2.2.2
  have c1 : Steps p.tables e below (s₁.setTop (entryFrame m #[.ref a, .ref b, .int (Int32.ofNat o), .int (Int32.ofNat len), .null] 6)) (s₁.setTop (mkF m 0 #[.val (.ref a), .val (.ref b), .val (.int (Int32.ofNat o)), .val (.int (Int32.ofNat len)), .val .null, .unset] [])) := entry rfl
  have c2 : Steps p.tables e below (s₁.setTop (entryFrame m #[.ref a, .ref b, .int (Int32.ofNat o), .int (Int32.ofNat len), .null] 6)) (s₁.setTop (mkF m 1 #[.val (.ref a), .val (.ref b), .val (.int (Int32.ofNat o)), .val (.int (Int32.ofNat len)), .val .null, .unset] [.ref a])) := c1.trans (by
    refine XS.aloadN X0.here hexec rfl (hb hbytes d0) rfl rfl ?_
    exact Steps.refl _)
  obtain ⟨T3, X3, q3, st3⟩ := X0.oinit hexec hown (wks W (objW "java/lang/String" 1)) (g := (mkF m 1 #[.val (.ref a), .val (.ref b), .val (.int (Int32.ofNat o)), .val (.int (Int32.ofNat len)), .val .null, .unset] [.ref a])) rfl (by rw [hml]; rfl) (rest := []) rfl (hb hbytes d1) (W := 0) (by show 2 * 0 + 0 ≤ _; decide) (Nat.le_of_ble_eq_true rfl) (Nat.le_of_ble_eq_true rfl)
  have hh3 := q3.trans hh0
  have c4 : Steps p.tables e below (s₁.setTop (entryFrame m #[.ref a, .ref b, .int (Int32.ofNat o), .int (Int32.ofNat len), .null] 6)) (T3.setTop (mkF m 27 #[.val (.ref a), .val (.ref b), .val (.int (Int32.ofNat o)), .val (.int (Int32.ofNat len)), .val .null, .unset] [])) := (c2.trans (st3 _ (Steps.refl _))).trans (by
    refine XS.iloadN X3.here hexec rfl (hb hbytes d4) rfl ?_
    refine XS.ifYes X3.here hexec rfl (pc0 := 5) rfl (hb hbytes d5) rfl (i0_ne_t (nz32 (by omega) l0)) (by decide) rfl ?_
    exact Steps.refl _)
  obtain ⟨T5, X5, q5, st5⟩ := X3.sget hexec hown (wk W (.fieldLink "java/lang/String" 38 "java/lang/String" "COMPACT_STRINGS" "Z")) s1 (fun _ _ h => by rw [hh3]; exact h) (g := (mkF m 27 #[.val (.ref a), .val (.ref b), .val (.int (Int32.ofNat o)), .val (.int (Int32.ofNat len)), .val .null, .unset] [])) rfl (hb hbytes d27)
  have hh5 := q5.trans hh3
  have c6 : Steps p.tables e below (s₁.setTop (entryFrame m #[.ref a, .ref b, .int (Int32.ofNat o), .int (Int32.ofNat len), .null] 6)) (T5.setTop (mkF m 30 #[.val (.ref a), .val (.ref b), .val (.int (Int32.ofNat o)), .val (.int (Int32.ofNat len)), .val .null, .unset] [.int z])) := c4.trans (st5 _ (Steps.refl _))
  have c7 : Steps p.tables e below (s₁.setTop (entryFrame m #[.ref a, .ref b, .int (Int32.ofNat o), .int (Int32.ofNat len), .null] 6)) (T5.setTop (mkF m 36 #[.val (.ref a), .val (.ref b), .val (.int (Int32.ofNat o)), .val (.int (Int32.ofNat len)), .val .null, .unset] [.int (Int32.ofNat len), .int (Int32.ofNat o), .ref b])) := c6.trans (by
    refine XS.ifNo X5.here hexec rfl (hb hbytes d30) rfl (i0_eq_f hz) ?_
    refine XS.aloadN X5.here hexec rfl (hb hbytes d33) rfl rfl ?_
    refine XS.iloadN X5.here hexec rfl (hb hbytes d34) rfl ?_
    refine XS.iloadN X5.here hexec rfl (hb hbytes d35) rfl ?_
    exact Steps.refl _)
  obtain ⟨v8, T8, X8, E8, g8⟩ := X5.callS hexec (Cmp3.law l b A o len) hown (wks W (staticW "java/lang/String" 177 Cmp3.yN)) (wk W Cmp3.tab) (W := 0) (Nat.le_of_ble_eq_true rfl) (Nat.le_of_ble_eq_true rfl) (Nat.le_refl _) (by show 0 + len ≤ len; omega) (g := (mkF m 36 #[.val (.ref a), .val (.ref b), .val (.int (Int32.ofNat o)), .val (.int (Int32.ofNat len)), .val .null, .unset] [.int (Int32.ofNat len), .int (Int32.ofNat o), .ref b])) rfl (by rw [hml]; rfl) c7 (argsL := [.ref b, .int (Int32.ofNat o), .int (Int32.ofNat len)]) (rest := []) rfl rfl (by show 2 * 0 + 0 ≤ _; decide) (hb hbytes d36) (⟨rfl, hA.mv X5.warmed.alike hh5, l1, l2, hp⟩)
  obtain ⟨e8, z8⟩ := E8
  obtain ⟨rfl, N, n1, n2, n3, n4, n5, n6⟩ := NewArr.mv _ T5 s _ _ hh5.symm (Vm.Alike.refl _) rfl e8
  rw [hh5] at z8
  have hB1 := hB.keep X8.warmed.alike (n6 _ _ hB.1)
  have hne : s.heap.size ≠ a := (Nat.ne_of_lt (Array.getElem?_eq_some_iff.mp hB.1).1).symm
  have c9 : Steps p.tables e below (s₁.setTop (entryFrame m #[.ref a, .ref b, .int (Int32.ofNat o), .int (Int32.ofNat len), .null] 6)) (T8.setTop (mkF m 39 #[.val (.ref a), .val (.ref b), .val (.int (Int32.ofNat o)), .val (.int (Int32.ofNat len)), .val .null, .unset] [.ref s.heap.size])) := g8
  have c10 : Steps p.tables e below (s₁.setTop (entryFrame m #[.ref a, .ref b, .int (Int32.ofNat o), .int (Int32.ofNat len), .null] 6)) (T8.setTop (mkF m 45 #[.val (.ref a), .val (.ref b), .val (.int (Int32.ofNat o)), .val (.int (Int32.ofNat len)), .val .null, .val (.ref s.heap.size)] [.int (Int32.ofNat N.slots.size), .ref s.heap.size, .ref a])) := by
    have hc : Steps p.tables e below (s₁.setTop (entryFrame m #[.ref a, .ref b, .int (Int32.ofNat o), .int (Int32.ofNat len), .null] 6)) (T8.setTop (mkF m 45 #[.val (.ref a), .val (.ref b), .val (.int (Int32.ofNat o)), .val (.int (Int32.ofNat len)), .val .null, .val (.ref s.heap.size)] [.int (Int32.ofNat len), .ref s.heap.size, .ref a])) := c9.trans (by
      refine XS.astore X8.here hexec rfl (hb hbytes d39) rfl rfl rfl ?_
      refine XS.aloadN X8.here hexec rfl (hb hbytes d41) rfl rfl ?_
      refine XS.aload X8.here hexec rfl (hb hbytes d42) rfl rfl ?_
      refine XS.iloadN X8.here hexec rfl (hb hbytes d44) rfl ?_
      exact Steps.refl _)
    rw [n4]; exact hc
  obtain ⟨v11, T11, X11, E11, g11⟩ := X8.callS hexec (CodL.law l s.heap.size N) hown (wks W (staticW "java/lang/String" 47 CodL.yN)) (wk W CodL.tab) (W := 1) (Nat.le_of_ble_eq_true rfl) (Nat.le_of_ble_eq_true rfl) (Nat.le_refl _) (by show 0 + len + 0 ≤ len; omega) (g := (mkF m 45 #[.val (.ref a), .val (.ref b), .val (.int (Int32.ofNat o)), .val (.int (Int32.ofNat len)), .val .null, .val (.ref s.heap.size)] [.int (Int32.ofNat N.slots.size), .ref s.heap.size, .ref a])) rfl (by rw [hml]; rfl) c10 (argsL := [.ref s.heap.size, .int (Int32.ofNat N.slots.size)]) (rest := [.ref a]) rfl rfl (by show 2 * 0 + (1 + 0) ≤ _; decide) (hb hbytes d45) (⟨rfl, n1⟩)
  obtain ⟨rfl, q11⟩ := E11
  have hB11 := hB1.mv (X8.warmed.alike.symm.trans X11.warmed.alike) q11
  have c12 : Steps p.tables e below (s₁.setTop (entryFrame m #[.ref a, .ref b, .int (Int32.ofNat o), .int (Int32.ofNat len), .null] 6)) (T11.setTop (mkF m 48 #[.val (.ref a), .val (.ref b), .val (.int (Int32.ofNat o)), .val (.int (Int32.ofNat len)), .val .null, .val (.ref s.heap.size)] [.int 0, .ref a])) := g11
  obtain ⟨T13, X13, p13, bl13, sl13, st13⟩ := X11.finit hexec hown (wk W (.fieldLink "java/lang/String" 15 "java/lang/String" "coder" "B")) (Or.inr ⟨_, (wk W (.laysFinal "java/lang/String" "java/lang/String" "coder" "B"))⟩) (Or.inl ⟨rfl, hnm⟩) f2 (Or.inl rfl) hB11 (t := .byte) (by decide +kernel) rfl (g := (mkF m 48 #[.val (.ref a), .val (.ref b), .val (.int (Int32.ofNat o)), .val (.int (Int32.ofNat len)), .val .null, .val (.ref s.heap.size)] [.int 0, .ref a])) rfl (rest := []) rfl (hb hbytes d48)
  have c14 : Steps p.tables e below (s₁.setTop (entryFrame m #[.ref a, .ref b, .int (Int32.ofNat o), .int (Int32.ofNat len), .null] 6)) (T13.setTop (mkF m 54 #[.val (.ref a), .val (.ref b), .val (.int (Int32.ofNat o)), .val (.int (Int32.ofNat len)), .val .null, .val (.ref s.heap.size)] [.ref s.heap.size, .ref a])) := (c12.trans (st13 _ (Steps.refl _))).trans (by
    refine XS.aloadN X13.here hexec rfl (hb hbytes d51) rfl rfl ?_
    refine XS.aload X13.here hexec rfl (hb hbytes d52) rfl rfl ?_
    exact Steps.refl _)
  obtain ⟨T15, X15, p15, bl15, sl15, st15⟩ := X13.finit hexec hown (wk W (.fieldLink "java/lang/String" 9 "java/lang/String" "value" "[B")) (Or.inr ⟨_, (wk W (.laysFinal "java/lang/String" "java/lang/String" "value" "[B"))⟩) (Or.inl ⟨rfl, hnm⟩) f1 (Or.inl rfl) bl13 (t := (.array .byte)) (by decide +kernel) rfl (g := (mkF m 54 #[.val (.ref a), .val (.ref b), .val (.int (Int32.ofNat o)), .val (.int (Int32.ofNat len)), .val .null, .val (.ref s.heap.size)] [.ref s.heap.size, .ref a])) rfl (rest := []) rfl (hb hbytes d54)
  have c16 : Steps p.tables e below (s₁.setTop (entryFrame m #[.ref a, .ref b, .int (Int32.ofNat o), .int (Int32.ofNat len), .null] 6)) (T15.setTop (mkF m 57 #[.val (.ref a), .val (.ref b), .val (.int (Int32.ofNat o)), .val (.int (Int32.ofNat len)), .val .null, .val (.ref s.heap.size)] [])) := c14.trans (st15 _ (Steps.refl _))
  have ap := apart (Or.inr ⟨_, (wk W (.laysFinal "java/lang/String" "java/lang/String" "value" "[B"))⟩) (Or.inr ⟨_, (wk W (.laysFinal "java/lang/String" "java/lang/String" "coder" "B"))⟩) f1 f2 (t₁ := .array .byte) (t₂ := .byte) (by decide +kernel) (by decide +kernel) (by decide)
  have al := X8.warmed.alike.symm.trans X15.warmed.alike
  have n7 : T11.heap[s.heap.size]? = some N := by rw [q11]; exact n1.1
  exact ⟨T15, none, _, _, _, X15, by simp, rfl, by omega, (fun _ => rfl), ⟨rfl, _, N, bl15, ((Same.refl D _).set _ (by simp)).set _ (by simp), sl15, (Cell.slots_setSlot_ne _ ap).trans sl13, n1.keep al (p15.other hne (p13.other hne n7)), n2, by rw [al.findClass]; exact n3, n4, n5, fun y c h1 h2 => p15.other h1 (p13.other h1 (by rw [q11]; exact n6 y c h2)), by rw [p15.2.2, p13.2.2, q11]; exact z8⟩, fun fs hl => c16.trans (X15.returnOut hexec hret (hb hbytes d57) hl)⟩
end New4
namespace New1
def yN : MethodName := ⟨"java/lang/String", "<init>", "([C)V"⟩
abbrev yB : ByteArray := jdk_42_method_3_code
theorem d0 : decode yB 0 = .ok (.aload_n 0, 1) := by decide +kernel
theorem d1 : decode yB 1 = .ok (.aload_n 1, 1) := by decide +kernel
theorem d2 : decode yB 2 = .ok (.iconst 0, 1) := by decide +kernel
theorem d3 : decode yB 3 = .ok (.aload_n 1, 1) := by decide +kernel
theorem d4 : decode yB 4 = .ok (.arraylength, 1) := by decide +kernel
theorem d5 : decode yB 5 = .ok (.aconst_null, 1) := by decide +kernel
theorem d6 : decode yB 6 = .ok (.invokespecial 27, 3) := by decide +kernel
theorem d9 : decode yB 9 = .ok (.return_, 1) := by decide +kernel
def site : List Cond := [New4.tab] ++ initW "java/lang/String" 27 New4.yN
def tab : Cond := tabOf yN yB 2 none site
def P (a : Addr) (D : Cell) (fV fC : Field) (b : Addr) (A : Cell) (z : Int32) (args : Array Value) (s : State) : Prop := args = #[.ref a, .ref b] ∧ Blank "java/lang/String" a D s ∧ Found "java/lang/String" "value" "[B" fV s ∧ Found "java/lang/String" "coder" "B" fC s ∧ Ch b A s ∧ StaticIs s "java/lang/String" "COMPACT_STRINGS" "Z" (.int z) ∧ ¬ z = 0 ∧ 0 < A.slots.size ∧ A.slots.size ≤ 536870912 ∧ ∀ i, i < A.slots.size → ¬ 255 < cv A i
def E (a : Addr) (D : Cell) (fV fC : Field) (A : Cell) (r : Option Value) (s u : State) : Prop := Got a D fV fC A 0 A.slots.size r s u
/-- new String(chars), not empty, no char above 255: a Latin-1 String of their low bytes -/
theorem law (l : Launch) (a : Addr) (D : Cell) (fV fC : Field) (b : Addr) (A : Cell) (z : Int32) : Law l yN 2 1 3 52 yB 2 none site (P a D fV fC b A z) (E a D fV fC A) [⟨a, fC.slot⟩, ⟨a, fV.slot⟩] 1 A.slots.size := by
  refine Law.of_walk (plainFor_of_name (by decide +kernel)) (by decide +kernel) (by decide +kernel) (by decide) (fun _ _ h => by rw [h.1]; rfl) (fun _ U U' hal hh h => ⟨h.1, h.2.1.mv hal hh, h.2.2.1.al hal, h.2.2.2.1.al hal, h.2.2.2.2.1.mv hal hh, h.2.2.2.2.2.1.there hal hh, h.2.2.2.2.2.2⟩) (fun r U U' V V' h1 hal h2 h => Got.mv r U U' V V' h1 hal h2 h) ?_
  intro p e s m args below meth c s₁ X0 hexec hbytes hml hret hlk hnm hown hh0 W hP
  obtain ⟨rfl, hB, f1, f2, hA, s1, hz, l0, l2, hp⟩ := hP
  have c1 : Steps p.tables e below (s₁.setTop (entryFrame m #[.ref a, .ref b] 2)) (s₁.setTop (mkF m 0 #[.val (.ref a), .val (.ref b)] [])) := entry rfl
  have c2 : Steps p.tables e below (s₁.setTop (entryFrame m #[.ref a, .ref b] 2)) (s₁.setTop (mkF m 6 #[.val (.ref a), .val (.ref b)] [.null, .int (Int32.ofNat A.slots.size), .int 0, .ref b, .ref a])) := c1.trans (by
    refine XS.aloadN X0.here hexec rfl (hb hbytes d0) rfl rfl ?_
    refine XS.aloadN X0.here hexec rfl (hb hbytes d1) rfl rfl ?_
    refine iconstV X0.here hexec rfl 0 (hb hbytes d2) (by decide) ?_
    refine XS.aloadN X0.here hexec rfl (hb hbytes d3) rfl rfl ?_
    refine X0.alen hexec (hA.1.mv X0.warmed.alike hh0) rfl rfl (hb hbytes d4) ?_
    refine XS.aconstNull X0.here hexec rfl (hb hbytes d5) ?_
    exact Steps.refl _)
  obtain ⟨v3, T3, X3, E3, g3⟩ := X0.callN hexec (New4.law l a D fV fC b A z 0 A.slots.size) rfl hown (wks W (initW "java/lang/String" 27 New4.yN)) (W New4.tab (by simp only [site, List.mem_cons, List.mem_append, true_or, or_true])) (W := 0) (Nat.le_of_ble_eq_true rfl) (Nat.le_of_ble_eq_true rfl) (Nat.le_refl _) (by show 0 + A.slots.size ≤ A.slots.size; omega) (g := (mkF m 6 #[.val (.ref a), .val (.ref b)] [.null, .int (Int32.ofNat A.slots.size), .int (Int32.ofNat 0), .ref b, .ref a])) rfl (by rw [hml]; rfl) c2 (argsL := [.ref b, .int (Int32.ofNat 0), .int (Int32.ofNat A.slots.size), .null]) (rest := []) rfl rfl (by show 2 * 0 + 0 ≤ _; decide) (hb hbytes d6) (⟨rfl, hB.mv X0.warmed.alike hh0, f1.al X0.warmed.alike, f2.al X0.warmed.alike, hA.mv X0.warmed.alike hh0, s1.there X0.warmed.alike hh0, hz, l0, by omega, l2, fun i hi => by rw [Nat.zero_add]; exact hp i hi⟩)
  have e0 := Got.mv _ s₁ s _ _ hh0.symm (Vm.Alike.refl _) rfl E3
  obtain rfl := e0.1
  have c4 : Steps p.tables e below (s₁.setTop (entryFrame m #[.ref a, .ref b] 2)) (T3.setTop (mkF m 9 #[.val (.ref a), .val (.ref b)] [])) := g3
  exact ⟨T3, none, _, _, _, X3, by simp, rfl, by omega, (fun _ => rfl), e0, fun fs hl => c4.trans (X3.returnOut hexec hret (hb hbytes d9) hl)⟩
theorem pays {l : Launch} {R : Room} {p : Program} {e : Env} {below : List Frame} {s : State} {sargs : Array Value} {len W : Nat} (a : Addr) (D : Cell) (fV fC : Field) (b : Addr) (A : Cell) (z : Int32) (htab : tab.before sargs s = true) (hfr : 4 ≤ R.frames) (hlo : W + 65 ≤ R.locals) :
    Back l R p e below s sargs yN len W (fun A₁ a₁ => A₁.cells + 1 ≤ R.cells ∧ A₁.slots + A.slots.size ≤ R.slots ∧ P a D fV fC b A z a₁ A₁.U) (fun A₁ _ v₁ B₁ => E a D fV fC A v₁ A₁.U B₁.U ∧ B₁.locs = A₁.locs ++ [⟨a, fC.slot⟩, ⟨a, fV.slot⟩] ∧ B₁.cells = A₁.cells + 1 ∧ B₁.slots = A₁.slots + A.slots.size) :=
  (law l a D fV fC b A z).pays htab hfr (by omega)
end New1
end StrChars
namespace StrChars.Road
open Jvm Sem ClassFile Op Lib Jvm.Stand Jvm.Free Jvm.Free.XT
open Jvm.Lib.Cold (StaticIs)
abbrev ST : String := "java/lang/String"
/-- every table word that New1's law asks, flat -/
abbrev words : List Jvm.Cond := [.code New1.yN New1.yB 2 none, .initialized ST, .methodLink ST 27 New4.yN, .instanceMethod New4.yN,
  .code New4.yN New4.yB 6 none, .fieldLink ST 38 ST "COMPACT_STRINGS" "Z", .laysFinal ST ST "value" "[B", .fieldLink ST 9 ST "value" "[B", .laysFinal ST ST "coder" "B", .fieldLink ST 15 ST "coder" "B",
  .methodLink ST 1 Lib.objectInit, .instanceMethod Lib.objectInit, .code Lib.objectInit ⟨#[0xb1]⟩ 1 none, .methodLink ST 177 Cmp3.yN, .static Cmp3.yN, .methodLink ST 47 CodL.yN, .static CodL.yN,
  .code Cmp3.yN Cmp3.yB 6 (some (.array .byte)), .initialized U16, .arrayClass .byte, .methodLink U16 115 Cmp5.yN, .static Cmp5.yN, .code Cmp5.yN Cmp5.yB 7 (some .int), .code CodL.yN CodL.yB 2 (some .byte)]
theorem tab_of {a : Array Value} {s : State} (h : ∀ w ∈ words, w.before a s = true) : New1.tab.before a s = true := by
  have h5 : Cmp5.tab.before a s = true := unparts (wk h (.code Cmp5.yN Cmp5.yB 7 (some .int))) (wks h (.initialized Cmp5.yN.cls :: Cmp5.site))
  have hc : CodL.tab.before a s = true := unparts (wk h (.code CodL.yN CodL.yB 2 (some .byte))) (wks h (.initialized CodL.yN.cls :: CodL.site))
  have q5 : ∀ w ∈ Cmp5.tab :: words, w.before a s = true := fun w hw => (List.mem_cons.mp hw).elim (fun e => e ▸ h5) (h w)
  have h3 : Cmp3.tab.before a s = true := unparts (wk q5 (.code Cmp3.yN Cmp3.yB 6 (some (.array .byte)))) (wks q5 (.initialized Cmp3.yN.cls :: Cmp3.site))
  have q3 : ∀ w ∈ Cmp3.tab :: CodL.tab :: words, w.before a s = true := fun w hw => (List.mem_cons.mp hw).elim (fun e => e ▸ h3) fun hw => (List.mem_cons.mp hw).elim (fun e => e ▸ hc) (h w)
  have h4 : New4.tab.before a s = true := unparts (wk q3 (.code New4.yN New4.yB 6 none)) (wks q3 (.initialized New4.yN.cls :: New4.site))
  have q4 : ∀ w ∈ New4.tab :: words, w.before a s = true := fun w hw => (List.mem_cons.mp hw).elim (fun e => e ▸ h4) (h w)
  exact unparts (wk q4 (.code New1.yN New1.yB 2 none)) (wks q4 (.initialized New1.yN.cls :: New1.site))
/-- the words ride from the start Z to the walk's own state -/
theorem moved {Z s : State} {a0 args : Array Value} (hZ : Z.Warmed39 s.vm) (hw : ∀ d ∈ words, d.before a0 Z = true) : ∀ d ∈ words, d.before args s = true := fun d hd => by
  have q := hw d hd
  have t : ∀ d ∈ words, d = .arrayClass .byte ∨ (d.onTables && d.keepsFace) = true := by decide +kernel
  rcases t d hd with rfl | t
  · exact RoadKit.mvA hZ q
  · exact RoadKit.mv hZ q t
/-- WHAT COMES BACK, over the tables of the start Z: h the heap at the call, h' behind it -/
def Q (Z : State) (x : Addr) (A : Cell) (h : Heap) (v : Option Value) (h' : Heap) (L : List Loc) : Prop := v = none ∧ (∀ y ∈ L, y.base = x) ∧ RoadKit.Keep h h' [x] ∧ h'.size = h.size + 1 ∧ RoadKit.Exa Z h' x ST ∧ RoadKit.Fld Z h' x ST "value" "[B" (.ref h.size) ∧ RoadKit.Fld Z h' x ST "coder" "B" (.int 0) ∧
  (∃ V : Cell, RoadKit.Arr Z h' h.size V .byte ∧ V.vm = .none ∧ Z.vm.findClass "[B" = some V.cls ∧ V.slots.size = A.slots.size ∧ ∀ j, j < A.slots.size → V.slots[j]? = some (.int (lo8 (cv A j)))) ∧
  ∀ (O n d : String) (w : Value), RoadKit.Fld Z h x O n d w → RoadKit.slotOf Z O n d ≠ RoadKit.slotOf Z ST "value" "[B" → RoadKit.slotOf Z O n d ≠ RoadKit.slotOf Z ST "coder" "B" → RoadKit.Fld Z h' x O n d w
/-- **new String(chars) AT A CALL, IN THE ROAD'S FORM**: for specialBack behind newO: x the fresh String, b the char[] with the cell A -/
theorem back {p : Program} {l : Launch} {e : Env} {R : Room} {s : State} {args : Array Value} {below : List Frame} {len W : Nat} {Z : State} {a0 : Array Value} {h : Heap} (hZ : Z.Warmed39 s.vm) (hw : ∀ d ∈ words, d.before a0 Z = true) {kI : Nat} (wi : (Jvm.Cond.instantiable ST kI).before a0 Z = true)
    {x b : Addr} {A : Cell} {z : Int32} {v0 c0 : Value} (E : RoadKit.Exa Z h x ST) (V : RoadKit.Fld Z h x ST "value" "[B" v0) (C : RoadKit.Fld Z h x ST "coder" "B" c0) (K : RoadKit.Arr Z h b A .char) (hty : Typed .char A) (S : RoadKit.Sta Z h ST "COMPACT_STRINGS" "Z" (.int z)) (hz : ¬ z = 0)
    (l0 : 0 < A.slots.size) (l2 : A.slots.size ≤ 536870912) (hp : ∀ i, i < A.slots.size → ¬ 255 < cv A i) (hfr : 4 ≤ R.frames) (hlo : W + 65 ≤ R.locals) :
    Back l R p e below s args New1.yN len W (fun P a => a = #[.ref x, .ref b] ∧ P.U.heap = h ∧ P.cells + 1 ≤ R.cells ∧ P.slots + A.slots.size ≤ R.slots)
      (fun P _ v B => ∃ L, Q Z x A h v B.U.heap L ∧ B.locs = P.locs ++ L ∧ B.cells = P.cells + 1 ∧ B.slots = P.slots + A.slots.size) := by
  intro m meth c P g ig mk a X hg hsize hdg hW hn hp'
  obtain ⟨rfl, rfl, r1, r2⟩ := hp'
  have al : Z.vm.Alike P.U.vm := hZ.alike.trans X.warmed.alike
  obtain ⟨D, cfV, kV, iV, fV, hD, gV, stV, knV, obV, asV, slV⟩ := id V
  obtain ⟨D', cfC, kC, iC, fC, hD', gC, stC, -, -, asC, slC⟩ := id C
  cases hD.symm.trans hD'
  obtain ⟨D2, kD, e1, e2, e3, e4, e5⟩ := id E
  cases hD.symm.trans e1
  obtain ⟨c2, k2, i1, i2, i3, -⟩ := Cond.instantiable_spec wi
  cases e2.symm.trans i1
  cases e3.symm.trans i2
  obtain ⟨kU, u1, u2⟩ := al.2.2 _ _ e3
  have hB : Blank ST x D P.U := ⟨hD, ⟨knV, fun q hq => by rw [hq] at obV; cases obV⟩, by rw [al.findClass]; exact e2, kU, u1, by rw [u2]; exact i3, by rw [u2]; exact e5 i3⟩
  have F1 : Found ST "value" "[B" fV P.U := ⟨SBG.found_only al ⟨cfV, kV, iV, gV⟩, stV⟩
  have F2 : Found ST "coder" "B" fC P.U := ⟨SBG.found_only al ⟨cfC, kC, iC, gC⟩, stC⟩
  have hA : Ch b A P.U := ⟨⟨K.1, State.isArrayOf_alike al K.2.1, K.2.2, by omega⟩, hty⟩
  have hS : StaticIs P.U ST "COMPACT_STRINGS" "Z" (.int z) := by
    obtain ⟨cfS, iS, kS, fS, st, cS, t1, t2, t3, t4, t5, t6, t7⟩ := S
    exact StaticIs.there (s := { Z with heap := P.U.heap }) ⟨cfS, iS, kS, fS, st, cS, t1, t2, t3, t4, t5, (fun q => by rw [q] at t6; cases t6), t7⟩ al rfl
  obtain ⟨v, B, X', ⟨⟨hv, E', V', q1, q2, q3, q4, q5, q6, q7, q8, q9, q10, q11⟩, hl, hc, hs⟩, st⟩ := New1.pays x D fV fC b A z (tab_of (moved hZ hw)) hfr hlo m meth c P g ig mk _ X hg hsize hdg hW hn ⟨r1, r2, rfl, hB, F1, F2, hA, hS, hz, l0, l2, hp⟩
  have al' : Z.vm.Alike B.U.vm := hZ.alike.trans X'.warmed.alike
  have hsz : E'.slots.size = D.slots.size := by
    obtain ⟨-, -, -, kB, w1, w2, w3⟩ := q1
    obtain ⟨kB', y1, y2⟩ := al'.2.2 _ _ e3
    rw [q2.2.1] at w1
    cases w1.symm.trans y1
    rw [w3, e5 i3, y2]
  refine ⟨v, B, X', ⟨_, ⟨hv, ?_, ⟨by omega, fun y cy hy hn' => q10 y cy (by simpa using hn') hy, fun y cy hy => ?_⟩, q11, ⟨E', _, q1.1, by rw [q2.2.1]; exact e2, by rw [q2.2.1]; exact e3, by rw [q2.1]; exact obV, fun _ => by rw [hsz]; exact e5 i3⟩,
    ⟨E', cfV, kV, iV, fV, q1.1, gV, stV, by rw [q2.1]; exact knV, by rw [q2.1]; exact obV, by rw [q2.2.1]; exact asV, q3⟩, ⟨E', cfC, kC, iC, fC, q1.1, gC, stC, by rw [q2.1]; exact knV, by rw [q2.1]; exact obV, by rw [q2.2.1]; exact asC, q4⟩,
    ⟨V', ⟨q5.1, State.isArrayOf_alike al'.symm q5.2.1, q5.2.2.1⟩, q6, by rw [← al'.findClass]; exact q7, q8, fun j hj => by have := q9 j hj; rwa [Nat.zero_add] at this⟩, fun O n d w F n1 n2 => ?_⟩, hl, hc, hs⟩, st⟩
  · intro y hy
    simp only [List.mem_cons, List.not_mem_nil, or_false] at hy
    rcases hy with rfl | rfl <;> rfl
  · by_cases q : y = x
    · subst q
      cases hD.symm.trans hy
      exact ⟨E', q1.1, q2.2.1, q2.1, hsz⟩
    · exact ⟨cy, q10 y cy q hy, rfl, rfl, rfl⟩
  · obtain ⟨D3, cf, k, i, f, g1, g2, g3, g4, g5, g6, g7⟩ := F
    cases hD.symm.trans g1
    simp only [RoadKit.slotOf, g2, gV, gC, Option.map_some, Option.getD_some] at n1 n2
    exact ⟨E', cf, k, i, f, q1.1, g2, g3, by rw [q2.1]; exact g4, by rw [q2.1]; exact g5, by rw [q2.2.1]; exact g6, by rw [q2.2.2 f.slot (by simp [n1, n2])]; exact g7⟩
end StrChars.Road
namespace StrChars.Road
open Jvm Sem ClassFile Op Lib Jvm.Stand Jvm.Free Jvm.Free.XT
/-- WHAT COMES BACK, the byte[] as a list of values -/
def QA (Z : State) (x : Addr) (zn : Int32) (cs : List Int32) (h : Heap) (v : Option Value) (h' : Heap) (L : List Loc) : Prop := v = none ∧ (∀ y ∈ L, y.base = x) ∧ RoadKit.Keep h h' [x] ∧ h'.size = h.size + 1 ∧ RoadKit.Exa Z h' x ST ∧ RoadKit.Fld Z h' x ST "value" "[B" (.ref h.size) ∧ RoadKit.Fld Z h' x ST "coder" "B" (.int 0) ∧
  (∃ kb, Z.vm.findClass "[B" = some kb ∧ RoadKit.Arv Z h' h.size kb .byte zn (cs.map fun c => .int (lo8 c)) (.int 0)) ∧
  ∀ (O n d : String) (w : Value), RoadKit.Fld Z h x O n d w → RoadKit.slotOf Z O n d ≠ RoadKit.slotOf Z ST "value" "[B" → RoadKit.slotOf Z O n d ≠ RoadKit.slotOf Z ST "coder" "B" → RoadKit.Fld Z h' x O n d w
/-- **new String(chars) AT A CALL, THE ARRAYS AS LISTS**: the char[] at b holds cs, not empty, no char above 255 -/
theorem backArv {p : Program} {l : Launch} {e : Env} {R : Room} {s : State} {args : Array Value} {below : List Frame} {len W : Nat} {Z : State} {a0 : Array Value} {h : Heap} (hZ : Z.Warmed39 s.vm) (hw : ∀ d ∈ words, d.before a0 Z = true) {kI : Nat} (wi : (Jvm.Cond.instantiable ST kI).before a0 Z = true)
    {x b : Addr} {k : ClassId} {zn z : Int32} {cs : List Int32} {dv v0 c0 : Value} (E : RoadKit.Exa Z h x ST) (V : RoadKit.Fld Z h x ST "value" "[B" v0) (C : RoadKit.Fld Z h x ST "coder" "B" c0) (K : RoadKit.Arv Z h b k .char zn (cs.map Value.int) dv) (S : RoadKit.Sta Z h ST "COMPACT_STRINGS" "Z" (.int z)) (hz : ¬ z = 0)
    (hlen : zn.toNatClampNeg = cs.length) (h0 : 0 < cs.length) (hbig : cs.length ≤ 536870912) (hall : ∀ c ∈ cs, ¬ 255 < c) (hfr : 4 ≤ R.frames) (hlo : W + 65 ≤ R.locals) :
    Back l R p e below s args New1.yN len W (fun P a => a = #[.ref x, .ref b] ∧ P.U.heap = h ∧ P.cells + 1 ≤ R.cells ∧ P.slots + cs.length ≤ R.slots)
      (fun P _ v B => ∃ L, QA Z x zn cs h v B.U.heap L ∧ B.locs = P.locs ++ L ∧ B.cells = P.cells + 1 ∧ B.slots = P.slots + cs.length) := by
  obtain ⟨A, K1, K2, K3, K4, K5, K6⟩ := K
  have e : A.slots.size = cs.length := K3.trans hlen
  have hat : ∀ (i : Nat) (hi : i < cs.length), A.slots[i]? = some (.int cs[i]) := fun i hi => by rw [K5 i (by omega)]; simp [List.getD_eq_getElem?_getD, hi]
  have hcv : ∀ (i : Nat) (hi : i < cs.length), cv A i = cs[i] := fun i hi => by unfold cv; rw [hat i hi]
  have hty : Typed .char A := fun i v hv => by
    have hi : i < A.slots.size := (Array.getElem?_eq_some_iff.mp hv).1
    have q := K5 i hi
    rw [hv] at q
    rw [Option.some.inj q]
    exact K6 i hi
  refine Back.mono (back hZ hw wi E V C K1 hty S hz (by omega) (by omega) (fun i hi => by rw [hcv i (by omega)]; exact hall _ (List.getElem_mem _)) hfr hlo) (fun P a hp => ⟨hp.1, hp.2.1, hp.2.2.1, by rw [e]; exact hp.2.2.2⟩) (fun P a v B hp hq => ?_)
  obtain ⟨L, ⟨q1, q2, q3, q4, q5, q6, q7, ⟨V', v1, v2, v3, v4, v5⟩, q9⟩, hl, hc, hs⟩ := hq
  refine ⟨L, ⟨q1, q2, q3, q4, q5, q6, q7, ⟨V'.cls, v3, V', v1, rfl, by rw [v4, e, hlen], K4, fun i hi => ?_, fun i hi => ?_⟩, q9⟩, hl, hc, by rw [hs, e]⟩
  · have hi' : i < cs.length := by omega
    rw [v5 i (by omega), hcv i hi']; simp [List.getD_eq_getElem?_getD, hi']
  · have hi' : i < cs.length := by omega
    simp only [List.getD_eq_getElem?_getD, List.getElem?_map, List.getElem?_eq_getElem hi', Option.map_some, Option.getD_some]
    exact fits_lo8 _
end StrChars.Road
namespace StrChars.Road
open Jvm Sem ClassFile Op Lib Jvm.Stand Jvm.Free Jvm.Free.XT
/-- WHAT COMES BACK, in the writer's own shape -/
def QV (Z : State) (x : Addr) (N : Int32) (bs : List Int32) (h : Heap) (n0 : Nat) (v : Option Value) (h' : Heap) (L : List Loc) : Prop := v = none ∧ RoadKit.Fr n0 L ∧ RoadKit.Keep h h' [x] ∧ RoadKit.Exa Z h' x ST ∧ RoadKit.Fld Z h' x ST "coder" "B" (.int 0) ∧
  ∃ (t : Addr) (kb : ClassId), n0 ≤ t ∧ h.size ≤ t ∧ ¬ t = x ∧ RoadKit.Fld Z h' x ST "value" "[B" (.ref t) ∧ RoadKit.Arv Z h' t kb .byte N (bs.map Value.int) (.int 0)
/-- **new String(chars) AT A CALL, FOR THE WRITER**: a char[] of n known ints, each 0 to 255 -/
theorem backV {p : Program} {l : Launch} {e : Env} {R : Room} {s : State} {args : Array Value} {below : List Frame} {len W : Nat} {Z : State} {a0 : Array Value} {h : Heap} (hZ : Z.Warmed39 s.vm) (hw : ∀ d ∈ words, d.before a0 Z = true) {kI : Nat} (wi : (Jvm.Cond.instantiable ST kI).before a0 Z = true)
    {x b : Addr} {kC : ClassId} {cs bs : List Int32} {d v0 c0 : Value} {z N : Int32} {n n0 : Nat} (hx0 : n0 ≤ x) (hh0 : n0 ≤ h.size) (E : RoadKit.Exa Z h x ST) (V : RoadKit.Fld Z h x ST "value" "[B" v0) (C : RoadKit.Fld Z h x ST "coder" "B" c0) (K : RoadKit.Arv Z h b kC .char N (cs.map Value.int) d) (S : RoadKit.Sta Z h ST "COMPACT_STRINGS" "Z" (.int z)) (hz : ¬ z = 0)
    (hn : cs.length = n) (hN : N = Int32.ofNat n) (l0 : 0 < n) (l2 : n ≤ 4000) (hp : ∀ c ∈ cs, ¬ c < 0 ∧ ¬ (255 : Int32) < c) (hb : bs = cs.map (fun c => c.toInt8.toInt32)) (hfr : 4 ≤ R.frames) (hlo : W + 65 ≤ R.locals) :
    Back l R p e below s args (⟨"java/lang/String", "<init>", "([C)V"⟩ : MethodName) len W (fun P a => a = #[.ref x, .ref b] ∧ P.U.heap = h ∧ P.cells + 1 ≤ R.cells ∧ P.slots + n ≤ R.slots)
      (fun P _ v B => ∃ L, QV Z x N bs h n0 v B.U.heap L ∧ B.locs = P.locs ++ L ∧ B.cells = P.cells + 1 ∧ B.slots = P.slots + n) := by
  subst hn hN hb
  refine Back.mono (backArv hZ hw wi E V C K S hz (n32 (by omega)) l0 (by omega) (fun c hc => (hp c hc).2) hfr hlo) (fun P a hp => hp) (fun P a v B hp hq => ?_)
  obtain ⟨L, ⟨q1, q2, q3, q4, q5, q6, q7, ⟨kb, v1, v2⟩, q9⟩, hl, hc, hs⟩ := hq
  exact ⟨L, ⟨q1, fun y hy => by rw [q2 y hy]; exact hx0, q3, q5, q7, h.size, kb, hh0, Nat.le_refl _, Nat.ne_of_gt E.lt, q6, by rw [List.map_map]; exact v2⟩, hl, hc, hs⟩
end StrChars.Road
namespace StrChars
open Jvm Sem ClassFile Op Lib Jvm.Stand Jvm.Free.XT Jvm.Free.ALB Jvm.Free.JM Jvm.Free
open Jvm.Lib.Cold (StaticIs)
def hi8 (x : Int32) : Int32 := lo8 (x >>> ((8 : Int32) &&& 31))
end StrChars
namespace StrChars.Road
open Jvm Sem ClassFile Op Lib Jvm.Stand Jvm.Free Jvm.Free.XT
open Jvm.Lib.Cold (StaticIs)
/-- the bytes of the chars cs, low before high -/
def wideBytes : List Int32 → List Value
  | [] => []
  | c :: cs => .int (lo8 c) :: .int (hi8 c) :: wideBytes cs
/-- an array of N2 bytes vs codes the chars cs by the coder cd -/
def CodA (cs : List Int32) (cd N2 : Int32) (vs : List Value) : Prop := (cd = 0 ∧ N2 = Int32.ofNat cs.length ∧ vs = (cs.map fun c => Value.int (lo8 c)) ∧ ∀ c ∈ cs, ¬ 255 < c) ∨ (cd = 1 ∧ N2 = Int32.ofNat (2 * cs.length) ∧ vs = wideBytes cs ∧ ∃ c ∈ cs, 255 < c)
end StrChars.Road
namespace StrChars.Road
open Jvm Sem ClassFile Op Lib Jvm.Stand Jvm.Free Jvm.Free.XT
open Jvm.Lib.Cold (StaticIs)
/-- what backV says of its String, as the contracts of this text ask it: cs's low bytes, coder 0 -/
theorem codOf {cs : List Int32} {n : Nat} (hn : cs.length = n) (hb : ∀ c ∈ cs, ¬ 255 < c) : CodA cs 0 (Int32.ofNat n) ((cs.map lo8).map Value.int) := Or.inl ⟨rfl, by rw [hn], by simp [List.map_map, Function.comp_def], hb⟩
end StrChars.Road
end Jvm.Pilot.@@N@@

namespace Jvm.Pilot.@@N@@
open Jvm Jvm.ClassFile Sem Op Lib Jvm.Free Jvm.Stand Jvm.LawKit Jvm.RoadKit Bundle Jvm.Pilot.@@N@@.Jvm.D
theorem own_w0 : (Jvm.Cond.arrayClass Jvm.ClassFile.FieldType.char) ∈ tables_1 := List.mem_of_getElem? (i := 0) rfl
theorem own_w1 : (Jvm.Cond.classLink "com/example/task_callbacks/taskcallbacks/event/ListingOfPinLaw" (22 : Nat) "java/lang/String") ∈ tables_1 := List.mem_of_getElem? (i := 1) rfl
theorem own_w2 : (Jvm.Cond.instantiable "java/lang/String" (4 : Nat)) ∈ tables_1 := List.mem_of_getElem? (i := 2) rfl
theorem own_w3 : (Jvm.Cond.initialized "java/lang/String") ∈ tables_1 := List.mem_of_getElem? (i := 3) rfl
theorem own_w4 : (Jvm.Cond.methodLink "com/example/task_callbacks/taskcallbacks/event/ListingOfPinLaw" (27 : Nat) ({ cls := "java/lang/String", name := "<init>", desc := "([C)V" } : Jvm.MethodName)) ∈ tables_1 := List.mem_of_getElem? (i := 4) rfl
theorem own_w5 : (Jvm.Cond.instanceMethod ({ cls := "java/lang/String", name := "<init>", desc := "([C)V" } : Jvm.MethodName)) ∈ tables_1 := List.mem_of_getElem? (i := 5) rfl
theorem own_w6 : (Jvm.Cond.code ({ cls := "java/lang/String", name := "<init>", desc := "([C)V" } : Jvm.MethodName) jdk_42_method_3_code (2 : Nat) (Option.none : Option Jvm.ClassFile.FieldType)) ∈ tables_1 := List.mem_of_getElem? (i := 6) rfl
theorem own_w11 : (Jvm.Cond.methodLink "java/lang/String" (1 : Nat) ({ cls := "java/lang/Object", name := "<init>", desc := "()V" } : Jvm.MethodName)) ∈ tables_1 := List.mem_of_getElem? (i := 11) rfl
theorem own_w12 : (Jvm.Cond.instanceMethod ({ cls := "java/lang/Object", name := "<init>", desc := "()V" } : Jvm.MethodName)) ∈ tables_1 := List.mem_of_getElem? (i := 12) rfl
theorem own_w13 : (Jvm.Cond.code ({ cls := "java/lang/Object", name := "<init>", desc := "()V" } : Jvm.MethodName) object_method_1_code (1 : Nat) (Option.none : Option Jvm.ClassFile.FieldType)) ∈ tables_1 := List.mem_of_getElem? (i := 13) rfl
theorem own_w14 : (Jvm.Cond.fieldLink "java/lang/String" (38 : Nat) "java/lang/String" "COMPACT_STRINGS" "Z") ∈ tables_1 := List.mem_of_getElem? (i := 14) rfl
theorem own_w19 : (Jvm.Cond.arrayClass Jvm.ClassFile.FieldType.byte) ∈ tables_1 := List.mem_of_getElem? (i := 19) rfl
theorem own_w26 : (Jvm.Cond.fieldLink "java/lang/String" (15 : Nat) "java/lang/String" "coder" "B") ∈ tables_1 := List.mem_of_getElem? (i := 26) rfl
theorem own_w27 : (Jvm.Cond.laysFinal "java/lang/String" "java/lang/String" "coder" "B") ∈ tables_1 := List.mem_of_getElem? (i := 27) rfl
theorem own_w28 : (Jvm.Cond.fieldLink "java/lang/String" (9 : Nat) "java/lang/String" "value" "[B") ∈ tables_1 := List.mem_of_getElem? (i := 28) rfl
theorem own_w29 : (Jvm.Cond.laysFinal "java/lang/String" "java/lang/String" "value" "[B") ∈ tables_1 := List.mem_of_getElem? (i := 29) rfl
theorem own_w30 : (Jvm.Cond.methodLink "com/example/task_callbacks/taskcallbacks/event/ListingOfPinLaw" (30 : Nat) ({ cls := "com/example/task_callbacks/taskcallbacks/event/Listing", name := "of", desc := "(Lcom/example/task_callbacks/taskcallbacks/event/EventStatus;Ljava/lang/String;)Lcom/example/task_callbacks/taskcallbacks/event/Listing;" } : Jvm.MethodName)) ∈ tables_1 := List.mem_of_getElem? (i := 30) rfl
theorem own_w31 : (Jvm.Cond.static ({ cls := "com/example/task_callbacks/taskcallbacks/event/Listing", name := "of", desc := "(Lcom/example/task_callbacks/taskcallbacks/event/EventStatus;Ljava/lang/String;)Lcom/example/task_callbacks/taskcallbacks/event/Listing;" } : Jvm.MethodName)) ∈ tables_1 := List.mem_of_getElem? (i := 31) rfl
theorem own_w32 : (Jvm.Cond.initialized "com/example/task_callbacks/taskcallbacks/event/Listing") ∈ tables_1 := List.mem_of_getElem? (i := 32) rfl
theorem own_w33 : (Jvm.Cond.code ({ cls := "com/example/task_callbacks/taskcallbacks/event/Listing", name := "of", desc := "(Lcom/example/task_callbacks/taskcallbacks/event/EventStatus;Ljava/lang/String;)Lcom/example/task_callbacks/taskcallbacks/event/Listing;" } : Jvm.MethodName) prog_18_method_4_code (2 : Nat) (Option.some (Jvm.ClassFile.FieldType.object "com/example/task_callbacks/taskcallbacks/event/Listing"))) ∈ tables_1 := List.mem_of_getElem? (i := 33) rfl
theorem own_w34 : (Jvm.Cond.fieldLink "com/example/task_callbacks/taskcallbacks/event/Listing" (7 : Nat) "com/example/task_callbacks/taskcallbacks/event/Listing" "BY_TYPE" "Lcom/example/task_callbacks/taskcallbacks/event/Listing;") ∈ tables_1 := List.mem_of_getElem? (i := 34) rfl
theorem own_w35 : (Jvm.Cond.laysStatic "com/example/task_callbacks/taskcallbacks/event/Listing" "BY_TYPE" "Lcom/example/task_callbacks/taskcallbacks/event/Listing;") ∈ tables_1 := List.mem_of_getElem? (i := 35) rfl
theorem own_w36 : (Jvm.Cond.fieldLink "com/example/task_callbacks/taskcallbacks/event/ListingOfPinLaw" (42 : Nat) "com/example/task_callbacks/taskcallbacks/store/Table" "EVENTS_BY_TYPE" "Lcom/example/task_callbacks/taskcallbacks/store/Table;") ∈ tables_1 := List.mem_of_getElem? (i := 36) rfl
theorem own_w37 : (Jvm.Cond.initialized "com/example/task_callbacks/taskcallbacks/store/Table") ∈ tables_1 := List.mem_of_getElem? (i := 37) rfl
theorem own_w38 : (Jvm.Cond.laysStatic "com/example/task_callbacks/taskcallbacks/store/Table" "EVENTS_BY_TYPE" "Lcom/example/task_callbacks/taskcallbacks/store/Table;") ∈ tables_1 := List.mem_of_getElem? (i := 38) rfl
theorem own_w39 : (Jvm.Cond.methodLink "com/example/task_callbacks/taskcallbacks/event/ListingOfPinLaw" (57 : Nat) ({ cls := "com/example/task_callbacks/taskcallbacks/event/Listing", name := "table", desc := "(Lcom/example/task_callbacks/taskcallbacks/event/EventStatus;)Lcom/example/task_callbacks/taskcallbacks/store/Table;" } : Jvm.MethodName)) ∈ tables_1 := List.mem_of_getElem? (i := 39) rfl
theorem own_w40 : (Jvm.Cond.declares ({ cls := "com/example/task_callbacks/taskcallbacks/event/Listing", name := "table", desc := "(Lcom/example/task_callbacks/taskcallbacks/event/EventStatus;)Lcom/example/task_callbacks/taskcallbacks/store/Table;" } : Jvm.MethodName)) ∈ tables_1 := List.mem_of_getElem? (i := 40) rfl
theorem own_w41 : (Jvm.Cond.instanceMethod ({ cls := "com/example/task_callbacks/taskcallbacks/event/Listing", name := "table", desc := "(Lcom/example/task_callbacks/taskcallbacks/event/EventStatus;)Lcom/example/task_callbacks/taskcallbacks/store/Table;" } : Jvm.MethodName)) ∈ tables_1 := List.mem_of_getElem? (i := 41) rfl
theorem own_w42 : (Jvm.Cond.selects "com/example/task_callbacks/taskcallbacks/event/Listing" ({ cls := "com/example/task_callbacks/taskcallbacks/event/Listing", name := "table", desc := "(Lcom/example/task_callbacks/taskcallbacks/event/EventStatus;)Lcom/example/task_callbacks/taskcallbacks/store/Table;" } : Jvm.MethodName) ({ cls := "com/example/task_callbacks/taskcallbacks/event/Listing", name := "table", desc := "(Lcom/example/task_callbacks/taskcallbacks/event/EventStatus;)Lcom/example/task_callbacks/taskcallbacks/store/Table;" } : Jvm.MethodName)) ∈ tables_1 := List.mem_of_getElem? (i := 42) rfl
theorem own_w43 : (Jvm.Cond.code ({ cls := "com/example/task_callbacks/taskcallbacks/event/Listing", name := "table", desc := "(Lcom/example/task_callbacks/taskcallbacks/event/EventStatus;)Lcom/example/task_callbacks/taskcallbacks/store/Table;" } : Jvm.MethodName) prog_18_method_5_code (2 : Nat) (Option.some (Jvm.ClassFile.FieldType.object "com/example/task_callbacks/taskcallbacks/store/Table"))) ∈ tables_1 := List.mem_of_getElem? (i := 43) rfl
theorem own_w44 : (Jvm.Cond.fieldLink "com/example/task_callbacks/taskcallbacks/event/Listing" (46 : Nat) "com/example/task_callbacks/taskcallbacks/event/EventStatus" "PENDING" "Lcom/example/task_callbacks/taskcallbacks/event/EventStatus;") ∈ tables_1 := List.mem_of_getElem? (i := 44) rfl
theorem own_w45 : (Jvm.Cond.initialized "com/example/task_callbacks/taskcallbacks/event/EventStatus") ∈ tables_1 := List.mem_of_getElem? (i := 45) rfl
theorem own_w46 : (Jvm.Cond.laysStatic "com/example/task_callbacks/taskcallbacks/event/EventStatus" "PENDING" "Lcom/example/task_callbacks/taskcallbacks/event/EventStatus;") ∈ tables_1 := List.mem_of_getElem? (i := 46) rfl
theorem own_w47 : (Jvm.Cond.fieldLink "com/example/task_callbacks/taskcallbacks/event/Listing" (35 : Nat) "com/example/task_callbacks/taskcallbacks/event/Listing" "settled" "Lcom/example/task_callbacks/taskcallbacks/store/Table;") ∈ tables_1 := List.mem_of_getElem? (i := 47) rfl
theorem own_w49 : (Jvm.Cond.fieldLink "com/example/task_callbacks/taskcallbacks/event/ListingOfPinLaw" (16 : Nat) "com/example/task_callbacks/taskcallbacks/event/EventStatus" "FAILED" "Lcom/example/task_callbacks/taskcallbacks/event/EventStatus;") ∈ tables_1 := List.mem_of_getElem? (i := 49) rfl
theorem own_w50 : (Jvm.Cond.laysStatic "com/example/task_callbacks/taskcallbacks/event/EventStatus" "FAILED" "Lcom/example/task_callbacks/taskcallbacks/event/EventStatus;") ∈ tables_1 := List.mem_of_getElem? (i := 50) rfl
theorem own_w51 : (Jvm.Cond.fieldLink "com/example/task_callbacks/taskcallbacks/event/Listing" (13 : Nat) "com/example/task_callbacks/taskcallbacks/event/Listing" "BY_STATUS_AND_TYPE" "Lcom/example/task_callbacks/taskcallbacks/event/Listing;") ∈ tables_1 := List.mem_of_getElem? (i := 51) rfl
theorem own_w52 : (Jvm.Cond.laysStatic "com/example/task_callbacks/taskcallbacks/event/Listing" "BY_STATUS_AND_TYPE" "Lcom/example/task_callbacks/taskcallbacks/event/Listing;") ∈ tables_1 := List.mem_of_getElem? (i := 52) rfl
theorem own_w53 : (Jvm.Cond.fieldLink "com/example/task_callbacks/taskcallbacks/event/ListingOfPinLaw" (7 : Nat) "com/example/task_callbacks/taskcallbacks/event/EventStatus" "PENDING" "Lcom/example/task_callbacks/taskcallbacks/event/EventStatus;") ∈ tables_1 := List.mem_of_getElem? (i := 53) rfl
theorem own_w54 : (Jvm.Cond.fieldLink "com/example/task_callbacks/taskcallbacks/event/ListingOfPinLaw" (54 : Nat) "com/example/task_callbacks/taskcallbacks/store/Table" "EVENTS_BY_STATUS_AND_TYPE" "Lcom/example/task_callbacks/taskcallbacks/store/Table;") ∈ tables_1 := List.mem_of_getElem? (i := 54) rfl
theorem own_w55 : (Jvm.Cond.laysStatic "com/example/task_callbacks/taskcallbacks/store/Table" "EVENTS_BY_STATUS_AND_TYPE" "Lcom/example/task_callbacks/taskcallbacks/store/Table;") ∈ tables_1 := List.mem_of_getElem? (i := 55) rfl
theorem own_w56 : (Jvm.Cond.fieldLink "com/example/task_callbacks/taskcallbacks/event/ListingOfPinLaw" (13 : Nat) "com/example/task_callbacks/taskcallbacks/event/EventStatus" "DELIVERED" "Lcom/example/task_callbacks/taskcallbacks/event/EventStatus;") ∈ tables_1 := List.mem_of_getElem? (i := 56) rfl
theorem own_w57 : (Jvm.Cond.laysStatic "com/example/task_callbacks/taskcallbacks/event/EventStatus" "DELIVERED" "Lcom/example/task_callbacks/taskcallbacks/event/EventStatus;") ∈ tables_1 := List.mem_of_getElem? (i := 57) rfl
theorem own_w58 : (Jvm.Cond.methodLink "com/example/task_callbacks/taskcallbacks/event/ListingOfPinLaw" (21 : Nat) ({ cls := "java/lang/String", name := "valueOf", desc := "(C)Ljava/lang/String;" } : Jvm.MethodName)) ∈ tables_1 := List.mem_of_getElem? (i := 58) rfl
theorem own_w59 : (Jvm.Cond.static ({ cls := "java/lang/String", name := "valueOf", desc := "(C)Ljava/lang/String;" } : Jvm.MethodName)) ∈ tables_1 := List.mem_of_getElem? (i := 59) rfl
theorem own_w60 : (Jvm.Cond.code ({ cls := "java/lang/String", name := "valueOf", desc := "(C)Ljava/lang/String;" } : Jvm.MethodName) jdk_42_method_139_code (1 : Nat) (Option.some (Jvm.ClassFile.FieldType.object "java/lang/String"))) ∈ tables_1 := List.mem_of_getElem? (i := 60) rfl
theorem own_w61 : (Jvm.Cond.methodLink "java/lang/String" (1015 : Nat) ({ cls := "java/lang/StringLatin1", name := "canEncode", desc := "(C)Z" } : Jvm.MethodName)) ∈ tables_1 := List.mem_of_getElem? (i := 61) rfl
theorem own_w62 : (Jvm.Cond.static ({ cls := "java/lang/StringLatin1", name := "canEncode", desc := "(C)Z" } : Jvm.MethodName)) ∈ tables_1 := List.mem_of_getElem? (i := 62) rfl
theorem own_w63 : (Jvm.Cond.initialized "java/lang/StringLatin1") ∈ tables_1 := List.mem_of_getElem? (i := 63) rfl
theorem own_w64 : (Jvm.Cond.code ({ cls := "java/lang/StringLatin1", name := "canEncode", desc := "(C)Z" } : Jvm.MethodName) jdk_43_method_3_code (1 : Nat) (Option.some Jvm.ClassFile.FieldType.boolean)) ∈ tables_1 := List.mem_of_getElem? (i := 64) rfl
theorem own_w65 : (Jvm.Cond.classLink "java/lang/String" (10 : Nat) "java/lang/String") ∈ tables_1 := List.mem_of_getElem? (i := 65) rfl
theorem own_w66 : (Jvm.Cond.methodLink "java/lang/String" (1018 : Nat) ({ cls := "java/lang/StringLatin1", name := "toBytes", desc := "(C)[B" } : Jvm.MethodName)) ∈ tables_1 := List.mem_of_getElem? (i := 66) rfl
theorem own_w67 : (Jvm.Cond.static ({ cls := "java/lang/StringLatin1", name := "toBytes", desc := "(C)[B" } : Jvm.MethodName)) ∈ tables_1 := List.mem_of_getElem? (i := 67) rfl
theorem own_w68 : (Jvm.Cond.code ({ cls := "java/lang/StringLatin1", name := "toBytes", desc := "(C)[B" } : Jvm.MethodName) jdk_43_method_46_code (1 : Nat) (Option.some (Jvm.ClassFile.FieldType.array Jvm.ClassFile.FieldType.byte))) ∈ tables_1 := List.mem_of_getElem? (i := 68) rfl
theorem own_w69 : (Jvm.Cond.methodLink "java/lang/String" (209 : Nat) ({ cls := "java/lang/String", name := "<init>", desc := "([BB)V" } : Jvm.MethodName)) ∈ tables_1 := List.mem_of_getElem? (i := 69) rfl
theorem own_w70 : (Jvm.Cond.instanceMethod ({ cls := "java/lang/String", name := "<init>", desc := "([BB)V" } : Jvm.MethodName)) ∈ tables_1 := List.mem_of_getElem? (i := 70) rfl
theorem own_w71 : (Jvm.Cond.code ({ cls := "java/lang/String", name := "<init>", desc := "([BB)V" } : Jvm.MethodName) jdk_42_method_151_code (3 : Nat) (Option.none : Option Jvm.ClassFile.FieldType)) ∈ tables_1 := List.mem_of_getElem? (i := 71) rfl
theorem own_w72 : (Jvm.Cond.fieldLink "com/example/task_callbacks/taskcallbacks/event/Listing" (10 : Nat) "com/example/task_callbacks/taskcallbacks/event/Listing" "BY_STATUS" "Lcom/example/task_callbacks/taskcallbacks/event/Listing;") ∈ tables_1 := List.mem_of_getElem? (i := 72) rfl
theorem own_w73 : (Jvm.Cond.laysStatic "com/example/task_callbacks/taskcallbacks/event/Listing" "BY_STATUS" "Lcom/example/task_callbacks/taskcallbacks/event/Listing;") ∈ tables_1 := List.mem_of_getElem? (i := 73) rfl
theorem own_w74 : (Jvm.Cond.fieldLink "com/example/task_callbacks/taskcallbacks/event/ListingOfPinLaw" (45 : Nat) "com/example/task_callbacks/taskcallbacks/store/Table" "PENDING_EVENTS" "Lcom/example/task_callbacks/taskcallbacks/store/Table;") ∈ tables_1 := List.mem_of_getElem? (i := 74) rfl
theorem own_w75 : (Jvm.Cond.laysStatic "com/example/task_callbacks/taskcallbacks/store/Table" "PENDING_EVENTS" "Lcom/example/task_callbacks/taskcallbacks/store/Table;") ∈ tables_1 := List.mem_of_getElem? (i := 75) rfl
theorem own_w76 : (Jvm.Cond.fieldLink "com/example/task_callbacks/taskcallbacks/event/Listing" (39 : Nat) "com/example/task_callbacks/taskcallbacks/event/Listing" "pending" "Lcom/example/task_callbacks/taskcallbacks/store/Table;") ∈ tables_1 := List.mem_of_getElem? (i := 76) rfl
theorem own_w78 : (Jvm.Cond.stringLink "com/example/task_callbacks/taskcallbacks/event/ListingOfPinLaw" (19 : Nat) "") ∈ tables_1 := List.mem_of_getElem? (i := 78) rfl
theorem own_w81 : (Jvm.Cond.fieldLink "com/example/task_callbacks/taskcallbacks/event/ListingOfPinLaw" (48 : Nat) "com/example/task_callbacks/taskcallbacks/store/Table" "PENDING_EVENTS_BY_TYPE" "Lcom/example/task_callbacks/taskcallbacks/store/Table;") ∈ tables_1 := List.mem_of_getElem? (i := 81) rfl
theorem own_w82 : (Jvm.Cond.laysStatic "com/example/task_callbacks/taskcallbacks/store/Table" "PENDING_EVENTS_BY_TYPE" "Lcom/example/task_callbacks/taskcallbacks/store/Table;") ∈ tables_1 := List.mem_of_getElem? (i := 82) rfl
theorem own_w83 : (Jvm.Cond.fieldLink "com/example/task_callbacks/taskcallbacks/event/Listing" (3 : Nat) "com/example/task_callbacks/taskcallbacks/event/Listing" "ALL" "Lcom/example/task_callbacks/taskcallbacks/event/Listing;") ∈ tables_1 := List.mem_of_getElem? (i := 83) rfl
theorem own_w84 : (Jvm.Cond.laysStatic "com/example/task_callbacks/taskcallbacks/event/Listing" "ALL" "Lcom/example/task_callbacks/taskcallbacks/event/Listing;") ∈ tables_1 := List.mem_of_getElem? (i := 84) rfl
theorem own_w85 : (Jvm.Cond.fieldLink "com/example/task_callbacks/taskcallbacks/event/ListingOfPinLaw" (36 : Nat) "com/example/task_callbacks/taskcallbacks/store/Table" "EVENTS_NEWEST_FIRST" "Lcom/example/task_callbacks/taskcallbacks/store/Table;") ∈ tables_1 := List.mem_of_getElem? (i := 85) rfl
theorem own_w86 : (Jvm.Cond.laysStatic "com/example/task_callbacks/taskcallbacks/store/Table" "EVENTS_NEWEST_FIRST" "Lcom/example/task_callbacks/taskcallbacks/store/Table;") ∈ tables_1 := List.mem_of_getElem? (i := 86) rfl
theorem own_w87 : (Jvm.Cond.fieldLink "com/example/task_callbacks/taskcallbacks/event/ListingOfPinLaw" (51 : Nat) "com/example/task_callbacks/taskcallbacks/store/Table" "EVENTS_BY_STATUS" "Lcom/example/task_callbacks/taskcallbacks/store/Table;") ∈ tables_1 := List.mem_of_getElem? (i := 87) rfl
theorem own_w88 : (Jvm.Cond.laysStatic "com/example/task_callbacks/taskcallbacks/store/Table" "EVENTS_BY_STATUS" "Lcom/example/task_callbacks/taskcallbacks/store/Table;") ∈ tables_1 := List.mem_of_getElem? (i := 88) rfl
theorem own_d_jdk_43_method_3_code_0 : decode jdk_43_method_3_code 0 = .ok (.iload_n 0, 1) := by decide +kernel
theorem own_d_jdk_43_method_3_code_1 : decode jdk_43_method_3_code 1 = .ok (.sipush 255, 3) := by decide +kernel
theorem own_d_jdk_43_method_3_code_4 : decode jdk_43_method_3_code 4 = .ok (.if_icmp .gt 7, 3) := by decide +kernel
theorem own_d_jdk_43_method_3_code_7 : decode jdk_43_method_3_code 7 = .ok (.iconst 1, 1) := by decide +kernel
theorem own_d_jdk_43_method_3_code_8 : decode jdk_43_method_3_code 8 = .ok (.goto 4, 3) := by decide +kernel
theorem own_d_jdk_43_method_3_code_12 : decode jdk_43_method_3_code 12 = .ok (.ireturn, 1) := by decide +kernel
theorem own_d_jdk_43_method_46_code_0 : decode jdk_43_method_46_code 0 = .ok (.iconst 1, 1) := by decide +kernel
theorem own_d_jdk_43_method_46_code_1 : decode jdk_43_method_46_code 1 = .ok (.newarray .byte, 2) := by decide +kernel
theorem own_d_jdk_43_method_46_code_3 : decode jdk_43_method_46_code 3 = .ok (.dup, 1) := by decide +kernel
theorem own_d_jdk_43_method_46_code_4 : decode jdk_43_method_46_code 4 = .ok (.iconst 0, 1) := by decide +kernel
theorem own_d_jdk_43_method_46_code_5 : decode jdk_43_method_46_code 5 = .ok (.iload_n 0, 1) := by decide +kernel
theorem own_d_jdk_43_method_46_code_6 : decode jdk_43_method_46_code 6 = .ok (.i2b, 1) := by decide +kernel
theorem own_d_jdk_43_method_46_code_7 : decode jdk_43_method_46_code 7 = .ok (.bastore, 1) := by decide +kernel
theorem own_d_jdk_43_method_46_code_8 : decode jdk_43_method_46_code 8 = .ok (.areturn, 1) := by decide +kernel
theorem own_d_jdk_42_method_151_code_0 : decode jdk_42_method_151_code 0 = .ok (.aload_n 0, 1) := by decide +kernel
theorem own_d_jdk_42_method_151_code_1 : decode jdk_42_method_151_code 1 = .ok (.invokespecial 1, 3) := by decide +kernel
theorem own_d_jdk_42_method_151_code_4 : decode jdk_42_method_151_code 4 = .ok (.aload_n 0, 1) := by decide +kernel
theorem own_d_jdk_42_method_151_code_5 : decode jdk_42_method_151_code 5 = .ok (.aload_n 1, 1) := by decide +kernel
theorem own_d_jdk_42_method_151_code_6 : decode jdk_42_method_151_code 6 = .ok (.putfield 9, 3) := by decide +kernel
theorem own_d_jdk_42_method_151_code_9 : decode jdk_42_method_151_code 9 = .ok (.aload_n 0, 1) := by decide +kernel
theorem own_d_jdk_42_method_151_code_10 : decode jdk_42_method_151_code 10 = .ok (.iload_n 2, 1) := by decide +kernel
theorem own_d_jdk_42_method_151_code_11 : decode jdk_42_method_151_code 11 = .ok (.putfield 15, 3) := by decide +kernel
theorem own_d_jdk_42_method_151_code_14 : decode jdk_42_method_151_code 14 = .ok (.return_, 1) := by decide +kernel
theorem own_d_jdk_42_method_139_code_0 : decode jdk_42_method_139_code 0 = .ok (.getstatic 38, 3) := by decide +kernel
theorem own_d_jdk_42_method_139_code_3 : decode jdk_42_method_139_code 3 = .ok (.ifCond .eq 23, 3) := by decide +kernel
theorem own_d_jdk_42_method_139_code_6 : decode jdk_42_method_139_code 6 = .ok (.iload_n 0, 1) := by decide +kernel
theorem own_d_jdk_42_method_139_code_7 : decode jdk_42_method_139_code 7 = .ok (.invokestatic 1015, 3) := by decide +kernel
theorem own_d_jdk_42_method_139_code_10 : decode jdk_42_method_139_code 10 = .ok (.ifCond .eq 16, 3) := by decide +kernel
theorem own_d_jdk_42_method_139_code_13 : decode jdk_42_method_139_code 13 = .ok (.new 10, 3) := by decide +kernel
theorem own_d_jdk_42_method_139_code_16 : decode jdk_42_method_139_code 16 = .ok (.dup, 1) := by decide +kernel
theorem own_d_jdk_42_method_139_code_17 : decode jdk_42_method_139_code 17 = .ok (.iload_n 0, 1) := by decide +kernel
theorem own_d_jdk_42_method_139_code_18 : decode jdk_42_method_139_code 18 = .ok (.invokestatic 1018, 3) := by decide +kernel
theorem own_d_jdk_42_method_139_code_21 : decode jdk_42_method_139_code 21 = .ok (.iconst 0, 1) := by decide +kernel
theorem own_d_jdk_42_method_139_code_22 : decode jdk_42_method_139_code 22 = .ok (.invokespecial 209, 3) := by decide +kernel
theorem own_d_jdk_42_method_139_code_25 : decode jdk_42_method_139_code 25 = .ok (.areturn, 1) := by decide +kernel
theorem own_d_prog_18_method_4_code_0 : decode prog_18_method_4_code 0 = .ok (.aload_n 0, 1) := by decide +kernel
theorem own_d_prog_18_method_4_code_1 : decode prog_18_method_4_code 1 = .ok (.ifnonnull 17, 3) := by decide +kernel
theorem own_d_prog_18_method_4_code_4 : decode prog_18_method_4_code 4 = .ok (.aload_n 1, 1) := by decide +kernel
theorem own_d_prog_18_method_4_code_5 : decode prog_18_method_4_code 5 = .ok (.ifnonnull 9, 3) := by decide +kernel
theorem own_d_prog_18_method_4_code_8 : decode prog_18_method_4_code 8 = .ok (.getstatic 3, 3) := by decide +kernel
theorem own_d_prog_18_method_4_code_11 : decode prog_18_method_4_code 11 = .ok (.goto 6, 3) := by decide +kernel
theorem own_d_prog_18_method_4_code_17 : decode prog_18_method_4_code 17 = .ok (.areturn, 1) := by decide +kernel
theorem own_d_prog_18_method_4_code_14 : decode prog_18_method_4_code 14 = .ok (.getstatic 7, 3) := by decide +kernel
theorem own_d_prog_18_method_4_code_18 : decode prog_18_method_4_code 18 = .ok (.aload_n 1, 1) := by decide +kernel
theorem own_d_prog_18_method_4_code_19 : decode prog_18_method_4_code 19 = .ok (.ifnonnull 9, 3) := by decide +kernel
theorem own_d_prog_18_method_4_code_22 : decode prog_18_method_4_code 22 = .ok (.getstatic 10, 3) := by decide +kernel
theorem own_d_prog_18_method_4_code_25 : decode prog_18_method_4_code 25 = .ok (.goto 6, 3) := by decide +kernel
theorem own_d_prog_18_method_4_code_31 : decode prog_18_method_4_code 31 = .ok (.areturn, 1) := by decide +kernel
theorem own_d_prog_18_method_4_code_28 : decode prog_18_method_4_code 28 = .ok (.getstatic 13, 3) := by decide +kernel
theorem own_d_prog_18_method_5_code_0 : decode prog_18_method_5_code 0 = .ok (.aload_n 1, 1) := by decide +kernel
theorem own_d_prog_18_method_5_code_1 : decode prog_18_method_5_code 1 = .ok (.getstatic 46, 3) := by decide +kernel
theorem own_d_prog_18_method_5_code_4 : decode prog_18_method_5_code 4 = .ok (.if_acmp .ne 10, 3) := by decide +kernel
theorem own_d_prog_18_method_5_code_14 : decode prog_18_method_5_code 14 = .ok (.aload_n 0, 1) := by decide +kernel
theorem own_d_prog_18_method_5_code_15 : decode prog_18_method_5_code 15 = .ok (.getfield 35, 3) := by decide +kernel
theorem own_d_prog_18_method_5_code_18 : decode prog_18_method_5_code 18 = .ok (.areturn, 1) := by decide +kernel
theorem own_d_prog_18_method_5_code_7 : decode prog_18_method_5_code 7 = .ok (.aload_n 0, 1) := by decide +kernel
theorem own_d_prog_18_method_5_code_8 : decode prog_18_method_5_code 8 = .ok (.getfield 39, 3) := by decide +kernel
theorem own_d_prog_18_method_5_code_11 : decode prog_18_method_5_code 11 = .ok (.goto 7, 3) := by decide +kernel
theorem own_pd0 : parseMethodDescriptor "(C)Z" = some ⟨[.char], some .boolean⟩ := by decide +kernel
theorem own_pd1 : parseMethodDescriptor "(C)[B" = some ⟨[.char], some (.array .byte)⟩ := by decide +kernel
theorem own_pd2 : parseMethodDescriptor "([BB)V" = some ⟨[(.array .byte), .byte], none⟩ := by decide +kernel
theorem own_pd3 : parseMethodDescriptor "(Lcom/example/task_callbacks/taskcallbacks/event/EventStatus;Ljava/lang/String;)Lcom/example/task_callbacks/taskcallbacks/event/Listing;" = some ⟨[(.object "com/example/task_callbacks/taskcallbacks/event/EventStatus"), (.object "java/lang/String")], some (.object "com/example/task_callbacks/taskcallbacks/event/Listing")⟩ := by decide +kernel
theorem own_pd4 : parseMethodDescriptor "(Lcom/example/task_callbacks/taskcallbacks/event/EventStatus;)Lcom/example/task_callbacks/taskcallbacks/store/Table;" = some ⟨[(.object "com/example/task_callbacks/taskcallbacks/event/EventStatus")], some (.object "com/example/task_callbacks/taskcallbacks/store/Table")⟩ := by decide +kernel
theorem own_pd5 : parseMethodDescriptor "(C)Ljava/lang/String;" = some ⟨[.char], some (.object "java/lang/String")⟩ := by decide +kernel
theorem own_pd6 : parseMethodDescriptor "([C)V" = some ⟨[(.array .char)], none⟩ := by decide +kernel
theorem own_pn0 : plainName "java/lang/StringLatin1" = true := by first | (simp [plainName, overriddenIn]; done) | decide +kernel
theorem own_pn1 : plainName "java/lang/String" = true := by first | (simp [plainName, overriddenIn]; done) | decide +kernel
theorem own_pn2 : plainName "com/example/task_callbacks/taskcallbacks/event/Listing" = true := by first | (simp [plainName, overriddenIn]; done) | decide +kernel
theorem own_pn3 : plainName "com/example/task_callbacks/taskcallbacks/event/ListingOfPinLaw" = true := by first | (simp [plainName, overriddenIn]; done) | decide +kernel
section OwnKit
variable {p : Program} {l : Launch} {e : Env} {R : Room} {s : State} {m : MethodId} {args : Array Value} {below : List Frame} {meth : Method} {c : Code} {T : State} {locs : List Loc} {cells slots : Nat} {Z : State} {h h1 h2 : Heap}
def own_Fin (p : Program) (e : Env) (below : List Frame) (S : State) (P : State → Outcome → Prop) : Prop := ∃ U o, Steps p.tables e below S U ∧ U.status = .running ∧ Ended U below o ∧ P U o
theorem own_st {S S' : State} {P : State → Outcome → Prop} (st : ∀ t, Steps p.tables e below S' t → Steps p.tables e below S t) (k : own_Fin p e below S' P) : own_Fin p e below S P := by
  obtain ⟨U, o, q, r⟩ := k; exact ⟨U, o, st _ q, r⟩
theorem own_tr {S S' : State} {P : State → Outcome → Prop} (st : Steps p.tables e below S S') (k : own_Fin p e below S' P) : own_Fin p e below S P := by
  obtain ⟨U, o, q, r⟩ := k; exact ⟨U, o, st.trans q, r⟩
def own_End (s : State) (Q : Option Value → Heap → List Loc → Prop) (k n : Nat) (U : State) (o : Outcome) : Prop := ∃ v L, o = .returned v ∧ Q v U.heap L ∧ FrameEnd s o U L k n
theorem own_ret (X : Stand p l e R s m args below meth c T locs cells slots) (hx : p.tables.exec = Jvm.exec) {pc : Nat} {Ls : Array Slot} {w : Value} {t : FieldType} {i : Instr} {rest : List Value} (hret : meth.sig.returnType = some t) (hlk : meth.locks = false) (hn : narrow t w = w)
    (hi : (i = .ireturn ∧ (t = .int ∨ t = .boolean ∨ t = .byte ∨ t = .char ∨ t = .short) ∧ ∃ z, w = .int z) ∨ (i = .lreturn ∧ t = .long ∧ ∃ z, w = .long z) ∨ (i = .dreturn ∧ t = .double ∧ ∃ z, w = .double z) ∨ (i = .freturn ∧ t = .float ∧ ∃ z, w = .float z) ∨ (i = .areturn ∧ t.isReference = true ∧ w.isRef = true))
    (hd : decode c.code pc = .ok (i, 1)) {Q : Option Value → Heap → List Loc → Prop} {k n : Nat} (hk : cells ≤ k) (hs : slots ≤ n) (hq : Q (some w) T.heap locs) : own_Fin p e below (T.setTop (mkF m pc Ls (w :: rest))) (own_End s Q k n) := by
  obtain ⟨fs, hr, hrun, hended, hW, hsame⟩ := X.leave (v := some w) (fun q => by rw [hret] at q; cases q) hlk
  exact ⟨_, _, retOut X hx hret hn hi hd hr, hrun, hended, _, _, rfl, hq, ⟨_, rfl⟩, hW, hsame.mono hk hs⟩
theorem own_ret0 (X : Stand p l e R s m args below meth c T locs cells slots) (hx : p.tables.exec = Jvm.exec) {pc : Nat} {Ls : Array Slot} (hret : meth.sig.returnType = none) (hlk : meth.locks = false)
    (hd : decode c.code pc = .ok (.return_, 1)) {Q : Option Value → Heap → List Loc → Prop} {k n : Nat} (hk : cells ≤ k) (hs : slots ≤ n) (hq : Q none T.heap locs) : own_Fin p e below (T.setTop (mkF m pc Ls [])) (own_End s Q k n) := by
  obtain ⟨fs, hr, hrun, hended, hW, hsame⟩ := X.leave (v := none) (fun _ => rfl) hlk
  exact ⟨_, _, X.returnOut hx hret hd hr, hrun, hended, _, _, rfl, hq, ⟨_, rfl⟩, hW, hsame.mono hk hs⟩
def own_EndW (s : State) (Q : Option Value → Heap → Vm → List Loc → Prop) (k n : Nat) (U : State) (o : Outcome) : Prop := ∃ v L, o = .returned v ∧ Q v U.heap U.vm L ∧ ReturnedEndW s o U L k n
theorem own_xr (h : Heap) : Ext h h := ⟨Nat.le_refl _, fun _ _ q => q⟩
theorem own_xt (E : Ext h h1) (F : Ext h1 h2) : Ext h h2 := ⟨Nat.le_trans E.1 F.1, fun a c q => F.2 a c (E.2 a c q)⟩
theorem own_xw {a : Addr} {sl : Nat} {v : Value} (E : Ext h h1) (W : Wr h1 h2 a sl v) (q : h.size ≤ a) : Ext h h2 :=
  ⟨Nat.le_trans E.1 (Nat.le_of_eq W.size.symm), fun b c hb => by
    obtain ⟨c', e1, -, -, -, e5, -⟩ := wr_at W (E.2 b c hb)
    have ne : b ≠ a := Nat.ne_of_lt (Nat.lt_of_lt_of_le (Array.getElem?_eq_some_iff.mp hb).1 q)
    rw [← e5 ne]; exact e1⟩
theorem own_xk {ws : List Addr} (E : Ext h h1) (K : Keep h1 h2 ws) (q : ∀ x ∈ ws, h.size ≤ x) : Ext h h2 :=
  ⟨Nat.le_trans E.1 K.1, fun b c hb => K.2.1 b c (E.2 b c hb) fun z => absurd (Array.getElem?_eq_some_iff.mp hb).1 (Nat.not_lt.mpr (q b z))⟩
theorem own_kx (E : Ext h h1) (ws : List Addr) : Keep h h1 ws := ⟨E.1, fun a c q _ => E.2 a c q, fun a c q => ⟨c, E.2 a c q, rfl, rfl, rfl⟩⟩
theorem own_slot {v w : Value} (q : v = w) : Slot.val v = Slot.val w := by rw [q]
end OwnKit

section OwnKitW
variable {p : Program} {l : Launch} {e : Env} {R : Room} {s : State} {m : MethodId} {args : Array Value} {below : List Frame} {meth : Method} {c : Code} {T : State} {locs : List Loc} {cells slots : Nat} {Z : State} {h h1 h2 : Heap}
theorem own_retNW (X : Stand p l e R s m args below meth c T locs cells slots) (hx : p.tables.exec = Jvm.exec) {pc : Nat} {Ls : Array Slot} {w : Value} {t : FieldType} {i : Instr} {rest : List Value} (hret : meth.sig.returnType = some t) (hlk : meth.locks = false) (hn : narrow t w = w)
    (hi : (i = .ireturn ∧ (t = .int ∨ t = .boolean ∨ t = .byte ∨ t = .char ∨ t = .short) ∧ ∃ z, w = .int z) ∨ (i = .lreturn ∧ t = .long ∧ ∃ z, w = .long z) ∨ (i = .dreturn ∧ t = .double ∧ ∃ z, w = .double z) ∨ (i = .freturn ∧ t = .float ∧ ∃ z, w = .float z) ∨ (i = .areturn ∧ t.isReference = true ∧ w.isRef = true))
    (hd : decode c.code pc = .ok (i, 1)) {Q : Option Value → Heap → Vm → List Loc → Prop} {k n : Nat} (hk : cells ≤ k) (hs : slots ≤ n) (hq : Q (some w) T.heap T.vm locs) : own_Fin p e below (T.setTop (mkF m pc Ls (w :: rest))) (own_EndW s Q k n) := by
  obtain ⟨fs, hr, hrun, hended, hW, hsame⟩ := X.leave (v := some w) (fun q => by rw [hret] at q; cases q) hlk
  exact ⟨_, _, retOut X hx hret hn hi hd hr, hrun, hended, _, _, rfl, hq, ReturnedEndW.of_narrow ⟨_, rfl⟩ hW (hsame.mono hk hs)⟩
theorem own_retW {vm1 : Vm} (X : Stand p l e R (s.setVm vm1) m args below meth c T locs cells slots) (hx : p.tables.exec = Jvm.exec) {n1 : Nat} (hS : s.Since vm1 n1) (hn1 : n1 ≤ T.heap.size) {pc : Nat} {Ls : Array Slot} {w : Value} {t : FieldType} {i : Instr} {rest : List Value} (hret : meth.sig.returnType = some t) (hlk : meth.locks = false) (hn : narrow t w = w)
    (hi : (i = .ireturn ∧ (t = .int ∨ t = .boolean ∨ t = .byte ∨ t = .char ∨ t = .short) ∧ ∃ z, w = .int z) ∨ (i = .lreturn ∧ t = .long ∧ ∃ z, w = .long z) ∨ (i = .dreturn ∧ t = .double ∧ ∃ z, w = .double z) ∨ (i = .freturn ∧ t = .float ∧ ∃ z, w = .float z) ∨ (i = .areturn ∧ t.isReference = true ∧ w.isRef = true))
    (hd : decode c.code pc = .ok (i, 1)) {Q : Option Value → Heap → Vm → List Loc → Prop} {k n : Nat} (hk : cells ≤ k) (hs : slots ≤ n) (hq : Q (some w) T.heap T.vm locs) : own_Fin p e below (T.setTop (mkF m pc Ls (w :: rest))) (own_EndW s Q k n) := by
  obtain ⟨fs, hr, hrun, hended, ⟨v, hv⟩, a, b, c'⟩ := X.leaveW hS hn1 (v := some w) (fun q => by rw [hret] at q; cases q) hlk
  exact ⟨_, _, retOut X hx hret hn hi hd hr, hrun, hended, _, _, rfl, hq, ⟨v, hv⟩, a, b, c'.mono hk hs⟩
theorem own_ret0W {vm1 : Vm} (X : Stand p l e R (s.setVm vm1) m args below meth c T locs cells slots) (hx : p.tables.exec = Jvm.exec) {n1 : Nat} (hS : s.Since vm1 n1) (hn1 : n1 ≤ T.heap.size) {pc : Nat} {Ls : Array Slot} (hret : meth.sig.returnType = none) (hlk : meth.locks = false)
    (hd : decode c.code pc = .ok (.return_, 1)) {Q : Option Value → Heap → Vm → List Loc → Prop} {k n : Nat} (hk : cells ≤ k) (hs : slots ≤ n) (hq : Q none T.heap T.vm locs) : own_Fin p e below (T.setTop (mkF m pc Ls [])) (own_EndW s Q k n) := by
  obtain ⟨fs, hr, hrun, hended, ⟨v, hv⟩, a, b, c'⟩ := X.leaveW hS hn1 (v := none) (fun _ => rfl) hlk
  exact ⟨_, _, X.returnOut hx hret hd hr, hrun, hended, _, _, rfl, hq, ⟨v, hv⟩, a, b, c'.mono hk hs⟩
end OwnKitW

section OwnStr
variable {p : Program} {l : Launch} {e : Env} {R : Room} {s : State} {args : Array Value} {below : List Frame} {len W : Nat} {Z : State} {a0 : Array Value} {h h' : Heap} {x y : Addr} {cs ds : List Int32} {z : Int32}
def own_Str (Z : State) (h : Heap) (x : Addr) (cs : List Int32) : Prop := ∃ (t : Addr) (kb : ClassId) (cd N : Int32) (vs : List Value), Exa Z h x "java/lang/String" ∧ Fld Z h x "java/lang/String" "value" "[B" (.ref t) ∧ Fld Z h x "java/lang/String" "coder" "B" (.int cd) ∧ Arv Z h t kb .byte N vs (.int 0) ∧ StrChars.Road.CodA cs cd N vs ∧ (∀ c ∈ cs, ¬ c < 0 ∧ ¬ (65535 : Int32) < c) ∧ cs.length ≤ 4000
theorem own_Str.ext (F : own_Str Z h x cs) (E : Ext h h') : own_Str Z h' x cs := by
  obtain ⟨t, kb, cd, N, vs, q1, q2, q3, q4, r⟩ := F; exact ⟨t, kb, cd, N, vs, q1.ext E, q2.ext E, q3.ext E, q4.ext E, r⟩
theorem own_Str.exa (F : own_Str Z h x cs) : Exa Z h x "java/lang/String" := by obtain ⟨t, kb, cd, N, vs, q1, -⟩ := F; exact q1
theorem own_Str.lt (F : own_Str Z h x cs) : x < h.size := F.exa.lt


theorem own_newB (hZ : Z.Warmed39 s.vm) (hw : ∀ d ∈ tables_1, d.before a0 Z = true) {b : Addr} {kC : ClassId} {d v0 c0 : Value} {N : Int32} {n n0 : Nat} (hx0 : n0 ≤ x) (hh0 : n0 ≤ h.size) (E : Exa Z h x "java/lang/String") (V : Fld Z h x "java/lang/String" "value" "[B" v0) (C : Fld Z h x "java/lang/String" "coder" "B" c0) (K : Arv Z h b kC .char N (cs.map Value.int) d) (S : Sta Z h "java/lang/String" "COMPACT_STRINGS" "Z" (.int z)) (hz : ¬ z = 0)
    (hn : cs.length = n) (hN : N = Int32.ofNat n) (l0 : 0 < n) (l2 : n ≤ 4000) (hp : ∀ c ∈ cs, ¬ c < 0 ∧ ¬ (255 : Int32) < c) (hfr : 4 ≤ R.frames) (hlo : W + 65 ≤ R.locals) :
    Back l R p e below s args (⟨"java/lang/String", "<init>", "([C)V"⟩ : MethodName) len W (fun P a => a = #[.ref x, .ref b] ∧ P.U.heap = h ∧ P.cells + 1 ≤ R.cells ∧ P.slots + n ≤ R.slots)
      (fun P _ v B => ∃ L, (v = none ∧ Fr n0 L ∧ Keep h B.U.heap [x] ∧ own_Str Z B.U.heap x cs) ∧ B.locs = P.locs ++ L ∧ B.cells = P.cells + 1 ∧ B.slots = P.slots + n) := by
  intro m meth c A g ig mk a X hg hsize hdg hW hnm hpre
  obtain ⟨v, B, X', ⟨L, ⟨q1, q2, q3, q4, q5, t, kb, q6, q7, q8, q9, q10⟩, r⟩, hst⟩ := StrChars.Road.backV hZ (fun d hd => hw d ((by decide +kernel : ∀ d ∈ StrChars.Road.words, d ∈ tables_1) d hd)) (hw _ own_w2) hx0 hh0 E V C K S hz hn hN l0 l2 hp rfl hfr hlo m meth c A g ig mk a X hg hsize hdg hW hnm hpre
  subst hN
  exact ⟨v, B, X', ⟨L, ⟨q1, q2, q3, t, kb, 0, _, _, q4, q9, q5, q10, StrChars.Road.codOf hn (fun c hc => (hp c hc).2), fun c hc => ⟨(hp c hc).1, fun q => (hp c hc).2 (Int32.lt_trans (by decide) q)⟩, by omega⟩, r⟩, hst⟩

end OwnStr
theorem own_pickY {v : Option Value} {P : Prop} (h : (v = some (.int 1) ∧ P) ∨ (v = some (.int 0) ∧ ¬ P)) (q : P) : v = some (.int 1) ∧ True := ⟨h.elim (fun r => r.1) fun r => absurd q r.2, trivial⟩
theorem own_pickN {v : Option Value} {P : Prop} (h : (v = some (.int 1) ∧ P) ∨ (v = some (.int 0) ∧ ¬ P)) (q : ¬ P) : v = some (.int 0) ∧ True := ⟨h.elim (fun r => absurd r.2 q) fun r => r.1, trivial⟩

def own_Sta (Z : State) (lA lT lS lB eP eD eF tN tT tP tQ tS tB : Addr) : Prop := Sta Z Z.heap "com/example/task_callbacks/taskcallbacks/event/Listing" "ALL" "Lcom/example/task_callbacks/taskcallbacks/event/Listing;" (.ref lA) ∧ Sta Z Z.heap "com/example/task_callbacks/taskcallbacks/event/Listing" "BY_TYPE" "Lcom/example/task_callbacks/taskcallbacks/event/Listing;" (.ref lT) ∧ Sta Z Z.heap "com/example/task_callbacks/taskcallbacks/event/Listing" "BY_STATUS" "Lcom/example/task_callbacks/taskcallbacks/event/Listing;" (.ref lS) ∧ Sta Z Z.heap "com/example/task_callbacks/taskcallbacks/event/Listing" "BY_STATUS_AND_TYPE" "Lcom/example/task_callbacks/taskcallbacks/event/Listing;" (.ref lB) ∧ Sta Z Z.heap "com/example/task_callbacks/taskcallbacks/event/EventStatus" "PENDING" "Lcom/example/task_callbacks/taskcallbacks/event/EventStatus;" (.ref eP) ∧ Sta Z Z.heap "com/example/task_callbacks/taskcallbacks/event/EventStatus" "DELIVERED" "Lcom/example/task_callbacks/taskcallbacks/event/EventStatus;" (.ref eD) ∧ Sta Z Z.heap "com/example/task_callbacks/taskcallbacks/event/EventStatus" "FAILED" "Lcom/example/task_callbacks/taskcallbacks/event/EventStatus;" (.ref eF) ∧ Sta Z Z.heap "com/example/task_callbacks/taskcallbacks/store/Table" "EVENTS_NEWEST_FIRST" "Lcom/example/task_callbacks/taskcallbacks/store/Table;" (.ref tN) ∧ Sta Z Z.heap "com/example/task_callbacks/taskcallbacks/store/Table" "EVENTS_BY_TYPE" "Lcom/example/task_callbacks/taskcallbacks/store/Table;" (.ref tT) ∧ Sta Z Z.heap "com/example/task_callbacks/taskcallbacks/store/Table" "PENDING_EVENTS" "Lcom/example/task_callbacks/taskcallbacks/store/Table;" (.ref tP) ∧ Sta Z Z.heap "com/example/task_callbacks/taskcallbacks/store/Table" "PENDING_EVENTS_BY_TYPE" "Lcom/example/task_callbacks/taskcallbacks/store/Table;" (.ref tQ) ∧ Sta Z Z.heap "com/example/task_callbacks/taskcallbacks/store/Table" "EVENTS_BY_STATUS" "Lcom/example/task_callbacks/taskcallbacks/store/Table;" (.ref tS) ∧ Sta Z Z.heap "com/example/task_callbacks/taskcallbacks/store/Table" "EVENTS_BY_STATUS_AND_TYPE" "Lcom/example/task_callbacks/taskcallbacks/store/Table;" (.ref tB) ∧ Exa Z Z.heap lA "com/example/task_callbacks/taskcallbacks/event/Listing" ∧ Exa Z Z.heap lT "com/example/task_callbacks/taskcallbacks/event/Listing" ∧ Exa Z Z.heap lS "com/example/task_callbacks/taskcallbacks/event/Listing" ∧ Exa Z Z.heap lB "com/example/task_callbacks/taskcallbacks/event/Listing" ∧ Fld Z Z.heap lA "com/example/task_callbacks/taskcallbacks/event/Listing" "settled" "Lcom/example/task_callbacks/taskcallbacks/store/Table;" (.ref tN) ∧ Fld Z Z.heap lA "com/example/task_callbacks/taskcallbacks/event/Listing" "pending" "Lcom/example/task_callbacks/taskcallbacks/store/Table;" (.ref tN) ∧ Fld Z Z.heap lT "com/example/task_callbacks/taskcallbacks/event/Listing" "settled" "Lcom/example/task_callbacks/taskcallbacks/store/Table;" (.ref tT) ∧ Fld Z Z.heap lT "com/example/task_callbacks/taskcallbacks/event/Listing" "pending" "Lcom/example/task_callbacks/taskcallbacks/store/Table;" (.ref tT) ∧ Fld Z Z.heap lS "com/example/task_callbacks/taskcallbacks/event/Listing" "settled" "Lcom/example/task_callbacks/taskcallbacks/store/Table;" (.ref tS) ∧ Fld Z Z.heap lS "com/example/task_callbacks/taskcallbacks/event/Listing" "pending" "Lcom/example/task_callbacks/taskcallbacks/store/Table;" (.ref tP) ∧ Fld Z Z.heap lB "com/example/task_callbacks/taskcallbacks/event/Listing" "settled" "Lcom/example/task_callbacks/taskcallbacks/store/Table;" (.ref tB) ∧ Fld Z Z.heap lB "com/example/task_callbacks/taskcallbacks/event/Listing" "pending" "Lcom/example/task_callbacks/taskcallbacks/store/Table;" (.ref tQ) ∧ eD ≠ eP ∧ eF ≠ eP

theorem own_c0 (x : Int32) : ¬ (x &&& (255 : Int32)).toUInt32.toUInt16.toUInt32.toInt32 < 0 ∧ ¬ (255 : Int32) < (x &&& (255 : Int32)).toUInt32.toUInt16.toUInt32.toInt32 := by
  rw [i2c_mask]
  have := c_and x 255 (by decide)
  refine ⟨?_, ?_⟩ <;> rw [Int32.lt_iff_toInt_lt] <;> (have q : (255 : Int32).toInt = 255 := by decide) <;> (have q0 : (0 : Int32).toInt = 0 := by decide) <;> omega
theorem own_nc (x : Int32) : nar .char x.toUInt32.toUInt16.toUInt32.toInt32 = x.toUInt32.toUInt16.toUInt32.toInt32 := by simp only [nar, UInt32.toUInt32_toInt32, UInt16.toUInt16_toUInt32]
theorem own_three (x : Int32) (h0 : ¬ (x &&& (3 : Int32)) = 0) (h1 : ¬ (x &&& (3 : Int32)) = 1) (h2 : ¬ (x &&& (3 : Int32)) = 2) : (x &&& (3 : Int32)) = 3 := by
  have := c_and x 3 (by decide)
  rw [← Int32.toInt_inj] at h0 h1 h2 ⊢
  have q0 : (0 : Int32).toInt = 0 := by decide
  have q1 : (1 : Int32).toInt = 1 := by decide
  have q2 : (2 : Int32).toInt = 2 := by decide
  have q3 : (3 : Int32).toInt = 3 := by decide
  omega
theorem own_hp2 (x y : Int32) : ∀ c ∈ [nar .char (x &&& (255 : Int32)).toUInt32.toUInt16.toUInt32.toInt32, nar .char (y &&& (255 : Int32)).toUInt32.toUInt16.toUInt32.toInt32], ¬ c < 0 ∧ ¬ (255 : Int32) < c := by
  intro c hc
  simp only [List.mem_cons, List.not_mem_nil, or_false] at hc
  rcases hc with rfl | rfl <;> rw [own_nc] <;> exact own_c0 _

theorem own_nb (c : Int32) : nar .byte c.toInt8.toInt32 = c.toInt8.toInt32 := by simp [nar]
theorem own_Str.one {Z : State} {h : Heap} {x t : Addr} {kb : ClassId} {c : Int32} (E : Exa Z h x "java/lang/String") (V : Fld Z h x "java/lang/String" "value" "[B" (.ref t)) (C : Fld Z h x "java/lang/String" "coder" "B" (.int 0)) (K : Arv Z h t kb .byte (1 : Int32) [.int c.toInt8.toInt32] (.int 0)) (h0 : ¬ c < 0) (h1 : ¬ (255 : Int32) < c) : own_Str Z h x [c] :=
  ⟨t, kb, 0, 1, _, E, V, C, K, Or.inl ⟨rfl, rfl, rfl, fun d hd => by cases List.mem_singleton.mp hd; exact h1⟩, fun d hd => by cases List.mem_singleton.mp hd; exact ⟨h0, fun q => h1 (Int32.lt_trans (by decide) q)⟩, by simp⟩

def own_Q_canenc (Z : State) (h0 : Heap) (n0 : Nat) (v : Option Value) (h : Heap) (L : List Loc) : Prop := v = some (.int 1) ∧ Fr n0 L ∧ h = h0
theorem own_ef_canenc (m : MethodId) (c0 : Int32) : entryFrame m #[(.int c0)] 1 = mkF m 0 #[.val (.int c0)] [] := by first | (simp [entryFrame, mkF, argsToLocals, Value.category, maxLocals]; done) | rfl
set_option maxRecDepth 65536 in
set_option maxHeartbeats 40000000 in
theorem own_rm_canenc (l : Launch) (Z : State) (a0 : Array Value) (hw : ∀ d ∈ tables_1, d.before a0 Z = true) (G1 : Int32) (S1 : Sta Z Z.heap "java/lang/String" "COMPACT_STRINGS" "Z" (.int G1)) (P1 : ¬ G1 = 0) (lA lT lS lB eP eD eF tN tT tP tQ tS tB : Addr) (B : own_Sta Z lA lT lS lB eP eD eF tN tT tP tQ tS tB) (ws : List Jvm.Cond) (c0 : Int32) (h0 : Heap) (n0 : Nat) (Z0 : n0 ≤ h0.size) (XO : Old Z n0 h0) (hp : ¬ ((255 : Int32) < c0)) :
    MetFree l (⟨"java/lang/StringLatin1", "canEncode", "(C)Z"⟩ : MethodName) (head1 (Jvm.Cond.code (⟨"java/lang/StringLatin1", "canEncode", "(C)Z"⟩ : MethodName) jdk_43_method_3_code 1 (some .boolean) :: ws) ({ frames := 0, cells := 0, slots := 0, locals := 0 } : Room)) (fun a U => a = #[(.int c0)] ∧ Z.Warmed39 U.vm ∧ U.heap = h0) (fun _ _ _ _ _ => True) (fun _ U o U' => ∃ v L, o = .returned v ∧ (own_Q_canenc Z h0 n0) v U'.heap L ∧ FrameEnd U o U' L ({ frames := 0, cells := 0, slots := 0, locals := 0 } : Room).cells ({ frames := 0, cells := 0, slots := 0, locals := 0 } : Room).slots) := by
  refine MetFree.of_bodySF (plainFor_of_name own_pn0) hisR ?_
  intro p e s m args below meth c s₁ Bd hml0 hP hK
  obtain ⟨rfl, hZ, hh⟩ := hP
  have hx := Bd.exec
  have hby := Bd.bytes
  have hlk : meth.locks = false := BodyLoose.notSynchronized Bd
  have hml : c.maxLocals = 1 := hml0
  have hown : s.vm.findClass "java/lang/StringLatin1" = some m.cls := findClass_of_methodNamed Bd.named
  have hnm := (name_of_methodNamed Bd.named Bd.method).1
  have X0 : Stand p l e ({ frames := 0, cells := 0, slots := 0, locals := 0 } : Room) s m #[(.int c0)] below meth c s₁ [] 0 0 := Stand.of_body Bd
  have e0 : s₁.heap = h0 := by rw [← hh, Bd.state]; rfl
  have N0 := Fr.nil n0
  show own_Fin p e below (s₁.setTop (entryFrame m #[(.int c0)] 1)) (own_End s ((own_Q_canenc Z h0 n0)) ({ frames := 0, cells := 0, slots := 0, locals := 0 } : Room).cells ({ frames := 0, cells := 0, slots := 0, locals := 0 } : Room).slots)
  refine own_st (S' := s₁.setTop (mkF m 0 #[.val (.int c0)] [])) (fun _ k => castTop (own_ef_canenc m c0) k) ?_
  refine own_st (S' := s₁.setTop (mkF m 8 #[.val (.int c0)] [(.int (1 : Int32))])) (fun _ k => XS.iloadN X0.here hx rfl (hb hby own_d_jdk_43_method_3_code_0) rfl (XS.sipush X0.here hx rfl (hb hby own_d_jdk_43_method_3_code_1) (XS.icmpNo X0.here hx rfl (hb hby own_d_jdk_43_method_3_code_4) rfl (flt hp).2.2.1 (XS.iconst X0.here hx rfl (hb hby own_d_jdk_43_method_3_code_7) k)))) ?_
  refine own_st (S' := s₁.setTop (mkF m 12 #[.val (.int c0)] [(.int (1 : Int32))])) (fun _ k => XS.goto X0.here hx rfl (pc0 := 8) (pc' := 12) rfl (hb hby own_d_jdk_43_method_3_code_8) (by decide) (by decide) k) ?_
  refine own_ret X0 hx Bd.returns hlk rfl (Or.inl ⟨rfl, (by simp), _, rfl⟩) (hb hby own_d_jdk_43_method_3_code_12) (by decide) (by decide) ?_
  rw [e0]
  exact ⟨rfl, N0, rfl⟩
def own_Q_tob (Z : State) (c0 : Int32) (h0 : Heap) (n0 : Nat) (v : Option Value) (h : Heap) (L : List Loc) : Prop := ∃ (r : Addr) (k : ClassId), v = some (.ref r) ∧ Fr n0 L ∧ Ext h0 h ∧ h0.size ≤ r ∧ Arv Z h r k .byte (1 : Int32) [.int c0.toInt8.toInt32] (.int 0)
theorem own_ef_tob (m : MethodId) (c0 : Int32) : entryFrame m #[(.int c0)] 1 = mkF m 0 #[.val (.int c0)] [] := by first | (simp [entryFrame, mkF, argsToLocals, Value.category, maxLocals]; done) | rfl
set_option maxRecDepth 65536 in
set_option maxHeartbeats 40000000 in
theorem own_rm_tob (l : Launch) (Z : State) (a0 : Array Value) (hw : ∀ d ∈ tables_1, d.before a0 Z = true) (G1 : Int32) (S1 : Sta Z Z.heap "java/lang/String" "COMPACT_STRINGS" "Z" (.int G1)) (P1 : ¬ G1 = 0) (lA lT lS lB eP eD eF tN tT tP tQ tS tB : Addr) (B : own_Sta Z lA lT lS lB eP eD eF tN tT tP tQ tS tB) (ws : List Jvm.Cond) (c0 : Int32) (h0 : Heap) (n0 : Nat) (Z0 : n0 ≤ h0.size) (XO : Old Z n0 h0) :
    MetFree l (⟨"java/lang/StringLatin1", "toBytes", "(C)[B"⟩ : MethodName) (head1 (Jvm.Cond.code (⟨"java/lang/StringLatin1", "toBytes", "(C)[B"⟩ : MethodName) jdk_43_method_46_code 1 (some (.array .byte)) :: ws) ({ frames := 0, cells := 1, slots := 1, locals := 0 } : Room)) (fun a U => a = #[(.int c0)] ∧ Z.Warmed39 U.vm ∧ U.heap = h0) (fun _ _ _ _ _ => True) (fun _ U o U' => ∃ v L, o = .returned v ∧ (own_Q_tob Z c0 h0 n0) v U'.heap L ∧ FrameEnd U o U' L ({ frames := 0, cells := 1, slots := 1, locals := 0 } : Room).cells ({ frames := 0, cells := 1, slots := 1, locals := 0 } : Room).slots) := by
  refine MetFree.of_bodySF (plainFor_of_name own_pn0) hisR ?_
  intro p e s m args below meth c s₁ Bd hml0 hP hK
  obtain ⟨rfl, hZ, hh⟩ := hP
  have hx := Bd.exec
  have hby := Bd.bytes
  have hlk : meth.locks = false := BodyLoose.notSynchronized Bd
  have hml : c.maxLocals = 1 := hml0
  have hown : s.vm.findClass "java/lang/StringLatin1" = some m.cls := findClass_of_methodNamed Bd.named
  have hnm := (name_of_methodNamed Bd.named Bd.method).1
  have X0 : Stand p l e ({ frames := 0, cells := 1, slots := 1, locals := 0 } : Room) s m #[(.int c0)] below meth c s₁ [] 0 0 := Stand.of_body Bd
  have e0 : s₁.heap = h0 := by rw [← hh, Bd.state]; rfl
  have N0 := Fr.nil n0
  show own_Fin p e below (s₁.setTop (entryFrame m #[(.int c0)] 1)) (own_End s ((own_Q_tob Z c0 h0 n0)) ({ frames := 0, cells := 1, slots := 1, locals := 0 } : Room).cells ({ frames := 0, cells := 1, slots := 1, locals := 0 } : Room).slots)
  refine own_st (S' := s₁.setTop (mkF m 0 #[.val (.int c0)] [])) (fun _ k => castTop (own_ef_tob m c0) k) ?_
  refine own_st (S' := s₁.setTop (mkF m 1 #[.val (.int c0)] [(.int (1 : Int32))])) (fun _ k => XS.iconst X0.here hx rfl (hb hby own_d_jdk_43_method_46_code_0) k) ?_
  obtain ⟨T101, h101, k101, X101, e101, E101, A101, AE101, st101⟩ := newPE X0 hx hZ (aty := .byte) (hw _ own_w19) e0 (g := (mkF m 1 #[.val (.int c0)] [(.int (1 : Int32))])) rfl (hb hby own_d_jdk_43_method_46_code_1) rfl (by decide) (cap := 1) (by decide) (by decide) (by decide) (by decide) (ad := "[B") (by decide)
  obtain ⟨b101, g101⟩ : ∃ z, z = h0.size := ⟨_, rfl⟩
  rw [← g101] at A101 AE101 st101
  have V101 : Arv Z h101 b101 k101 .byte (1 : Int32) [(.int (0 : Int32))] (.int (0 : Int32)) := (Arv.new A101 (by decide)).pad (pad_rep [] (.int (0 : Int32)) 1)
  refine own_st (S' := T101.setTop (mkF m 3 #[.val (.int c0)] [(.ref b101)])) st101 ?_
  refine own_st (S' := T101.setTop (mkF m 7 #[.val (.int c0)] [(.int (c0.toInt8.toInt32)), (.int (0 : Int32)), (.ref b101), (.ref b101)])) (fun _ k => XS.dup X101.here hx rfl (hb hby own_d_jdk_43_method_46_code_3) rfl rfl (XS.iconst X101.here hx rfl (hb hby own_d_jdk_43_method_46_code_4) (XS.iloadN X101.here hx rfl (hb hby own_d_jdk_43_method_46_code_5) rfl (XS.i2b X101.here hx rfl (hb hby own_d_jdk_43_method_46_code_6) rfl k)))) ?_
  obtain ⟨c102, A102, q102, S102, M102, H102, U102⟩ := id V101
  obtain ⟨T102, h102, X102, e102, W102, st102⟩ := stB X101 hx hZ e101 A102 (j := (0 : Int32)) (inb_of S102 ⟨by decide, by decide⟩) (g := (mkF m 7 #[.val (.int c0)] [(.int (c0.toInt8.toInt32)), (.int (0 : Int32)), (.ref b101), (.ref b101)])) rfl rfl (hb hby own_d_jdk_43_method_46_code_7)
  have N102 := Fr.snoc X102 N0 (Nat.le_trans Z0 (Nat.le_of_eq g101.symm))
  have V102 : Arv Z h102 b101 k101 .byte (1 : Int32) [(.int (nar .byte (c0.toInt8.toInt32)))] (.int (0 : Int32)) := Arv.set A102 q102 S102 M102 H102 U102 (fits_nar_byte _) W102 0 rfl (Nat.le_of_ble_eq_true rfl)
  refine own_st (S' := T102.setTop (mkF m 8 #[.val (.int c0)] [(.ref b101)])) st102 ?_
  have XE103 : Ext h0 h102 := (own_xw E101 W102 (Nat.le_of_eq g101.symm))
  refine own_ret X102 hx Bd.returns hlk rfl (Or.inr (Or.inr (Or.inr (Or.inr ⟨rfl, rfl, rfl⟩)))) (hb hby own_d_jdk_43_method_46_code_8) (by decide) (by decide) ?_
  rw [e102]
  exact ⟨b101, k101, rfl, N102, XE103, (Nat.le_of_eq g101.symm), (own_nb c0 ▸ V102 : _)⟩
def own_Q_initb (Z : State) (x0 t0 : Addr) (h0 : Heap) (n0 : Nat) (v : Option Value) (h : Heap) (L : List Loc) : Prop := v = none ∧ Fr n0 L ∧ Keep h0 h [x0] ∧ Fld Z h x0 "java/lang/String" "value" "[B" (.ref t0) ∧ Fld Z h x0 "java/lang/String" "coder" "B" (.int 0)
theorem own_ef_initb (m : MethodId) (x0 : Addr) (t0 : Addr) : entryFrame m #[(.ref x0), (.ref t0), (.int (0 : Int32))] 3 = mkF m 0 #[.val (.ref x0), .val (.ref t0), .val (.int (0 : Int32))] [] := by first | (simp [entryFrame, mkF, argsToLocals, Value.category, maxLocals]; done) | rfl
set_option maxRecDepth 65536 in
set_option maxHeartbeats 40000000 in
theorem own_rm_initb (l : Launch) (Z : State) (a0 : Array Value) (hw : ∀ d ∈ tables_1, d.before a0 Z = true) (G1 : Int32) (S1 : Sta Z Z.heap "java/lang/String" "COMPACT_STRINGS" "Z" (.int G1)) (P1 : ¬ G1 = 0) (lA lT lS lB eP eD eF tN tT tP tQ tS tB : Addr) (B : own_Sta Z lA lT lS lB eP eD eF tN tT tP tQ tS tB) (ws : List Jvm.Cond) (x0 t0 : Addr) (u0 v0 : Value) (h0 : Heap) (n0 : Nat) (Z0 : n0 ≤ h0.size) (XO : Old Z n0 h0) (g0 : n0 ≤ x0) (E1 : Exa Z h0 x0 "java/lang/String") (F1 : Fld Z h0 x0 "java/lang/String" "value" "[B" u0) (F2 : Fld Z h0 x0 "java/lang/String" "coder" "B" v0) :
    MetFree l (⟨"java/lang/String", "<init>", "([BB)V"⟩ : MethodName) (head1 (Jvm.Cond.code (⟨"java/lang/String", "<init>", "([BB)V"⟩ : MethodName) jdk_42_method_151_code 3 (none) :: ws) ({ frames := 1, cells := 0, slots := 0, locals := 12 } : Room)) (fun a U => a = #[(.ref x0), (.ref t0), (.int (0 : Int32))] ∧ Z.Warmed39 U.vm ∧ U.heap = h0) (fun _ _ _ _ _ => True) (fun _ U o U' => ∃ v L, o = .returned v ∧ (own_Q_initb Z x0 t0 h0 n0) v U'.heap L ∧ FrameEnd U o U' L ({ frames := 1, cells := 0, slots := 0, locals := 12 } : Room).cells ({ frames := 1, cells := 0, slots := 0, locals := 12 } : Room).slots) := by
  refine MetFree.of_bodySF (plainFor_of_name own_pn1) hisR ?_
  intro p e s m args below meth c s₁ Bd hml0 hP hK
  obtain ⟨rfl, hZ, hh⟩ := hP
  have hx := Bd.exec
  have hby := Bd.bytes
  have hlk : meth.locks = false := BodyLoose.notSynchronized Bd
  have hml : c.maxLocals = 3 := hml0
  have hown : s.vm.findClass "java/lang/String" = some m.cls := findClass_of_methodNamed Bd.named
  have hnm := (name_of_methodNamed Bd.named Bd.method).1
  have X0 : Stand p l e ({ frames := 1, cells := 0, slots := 0, locals := 12 } : Room) s m #[(.ref x0), (.ref t0), (.int (0 : Int32))] below meth c s₁ [] 0 0 := Stand.of_body Bd
  have e0 : s₁.heap = h0 := by rw [← hh, Bd.state]; rfl
  have N0 := Fr.nil n0
  show own_Fin p e below (s₁.setTop (entryFrame m #[(.ref x0), (.ref t0), (.int (0 : Int32))] 3)) (own_End s ((own_Q_initb Z x0 t0 h0 n0)) ({ frames := 1, cells := 0, slots := 0, locals := 12 } : Room).cells ({ frames := 1, cells := 0, slots := 0, locals := 12 } : Room).slots)
  refine own_st (S' := s₁.setTop (mkF m 0 #[.val (.ref x0), .val (.ref t0), .val (.int (0 : Int32))] [])) (fun _ k => castTop (own_ef_initb m x0 t0) k) ?_
  refine own_st (S' := s₁.setTop (mkF m 1 #[.val (.ref x0), .val (.ref t0), .val (.int (0 : Int32))] [(.ref x0)])) (fun _ k => XS.aloadN X0.here hx rfl (hb hby own_d_jdk_42_method_151_code_0) rfl rfl k) ?_
  obtain ⟨T101, X101, e101, st101⟩ := initO X0 hx hZ hown (hw _ own_w11) (hw _ own_w12) (hw _ own_w13) e0 (g := (mkF m 1 #[.val (.ref x0), .val (.ref t0), .val (.int (0 : Int32))] [(.ref x0)])) rfl (by rw [hml]; rfl) rfl (hb hby own_d_jdk_42_method_151_code_1) (by decide) (W := 0) (by show 2 * 0 + _ ≤ _; exact Nat.le_of_eq rfl) (by decide)
  refine own_st (S' := T101.setTop (mkF m 4 #[.val (.ref x0), .val (.ref t0), .val (.int (0 : Int32))] [])) st101 ?_
  refine own_st (S' := T101.setTop (mkF m 6 #[.val (.ref x0), .val (.ref t0), .val (.int (0 : Int32))] [(.ref t0), (.ref x0)])) (fun _ k => XS.aloadN X101.here hx rfl (hb hby own_d_jdk_42_method_151_code_4) rfl rfl (XS.aloadN X101.here hx rfl (hb hby own_d_jdk_42_method_151_code_5) rfl rfl k)) ?_
  obtain ⟨T102, h102, X102, e102, W102, st102⟩ := putF X101 hx hZ hown (host := "") (Or.inl (hw _ own_w28)) Via.refl e101 F1 E1 (Or.inr ⟨(hw _ own_w29), rfl, hnm⟩) (hw _ own_w2) (ty := (.array .byte)) (by decide) rfl rfl (g := (mkF m 6 #[.val (.ref x0), .val (.ref t0), .val (.int (0 : Int32))] [(.ref t0), (.ref x0)])) rfl rfl (hb hby own_d_jdk_42_method_151_code_6)
  have N102 := Fr.snoc X102 N0 g0
  refine own_st (S' := T102.setTop (mkF m 9 #[.val (.ref x0), .val (.ref t0), .val (.int (0 : Int32))] [])) st102 ?_
  refine own_st (S' := T102.setTop (mkF m 11 #[.val (.ref x0), .val (.ref t0), .val (.int (0 : Int32))] [(.int (0 : Int32)), (.ref x0)])) (fun _ k => XS.aloadN X102.here hx rfl (hb hby own_d_jdk_42_method_151_code_9) rfl rfl (XS.iloadN X102.here hx rfl (hb hby own_d_jdk_42_method_151_code_10) rfl k)) ?_
  have F103 : Fld Z h102 x0 "java/lang/String" "coder" "B" v0 := (F2.other W102 (Or.inr (slot_ne (Or.inr (hw _ own_w27)) (Or.inr (hw _ own_w29)) (by decide) (t := .byte) (t' := (.array .byte)) (by decide) (by decide))))
  have A104 : Exa Z h102 x0 "java/lang/String" := (E1.wr W102)
  obtain ⟨T105, h105, X105, e105, W105, st105⟩ := putF X102 hx hZ hown (host := "") (Or.inl (hw _ own_w26)) Via.refl e102 F103 A104 (Or.inr ⟨(hw _ own_w27), rfl, hnm⟩) (hw _ own_w2) (ty := .byte) (by decide) rfl rfl (g := (mkF m 11 #[.val (.ref x0), .val (.ref t0), .val (.int (0 : Int32))] [(.int (0 : Int32)), (.ref x0)])) rfl rfl (hb hby own_d_jdk_42_method_151_code_11)
  have N105 := Fr.snoc X105 N102 g0
  refine own_st (S' := T105.setTop (mkF m 14 #[.val (.ref x0), .val (.ref t0), .val (.int (0 : Int32))] [])) st105 ?_
  have F106 : Fld Z h105 x0 "java/lang/String" "value" "[B" (.ref t0) := ((F1.same W102).other W105 (Or.inr (slot_ne (Or.inr (hw _ own_w29)) (Or.inr (hw _ own_w27)) (by decide) (t := (.array .byte)) (t' := .byte) (by decide) (by decide))))
  refine own_ret0 X105 hx Bd.returns hlk (hb hby own_d_jdk_42_method_151_code_14) (by decide) (by decide) ?_
  rw [e105]
  exact ⟨rfl, N105, (((Keep.refl _ _).wr W102 (Or.inl (List.mem_of_getElem? (i := 0) rfl))).wr W105 (Or.inl (List.mem_of_getElem? (i := 0) rfl))), F106, (F103.same W105)⟩
def own_Q_vof (Z : State) (c0 : Int32) (h0 : Heap) (n0 : Nat) (v : Option Value) (h : Heap) (L : List Loc) : Prop := ∃ r, v = some (.ref r) ∧ Fr n0 L ∧ Ext h0 h ∧ h0.size ≤ r ∧ own_Str Z h r [c0]
theorem own_ef_vof (m : MethodId) (c0 : Int32) : entryFrame m #[(.int c0)] 1 = mkF m 0 #[.val (.int c0)] [] := by first | (simp [entryFrame, mkF, argsToLocals, Value.category, maxLocals]; done) | rfl
set_option maxRecDepth 65536 in
set_option maxHeartbeats 40000000 in
theorem own_rm_vof (l : Launch) (Z : State) (a0 : Array Value) (hw : ∀ d ∈ tables_1, d.before a0 Z = true) (G1 : Int32) (S1 : Sta Z Z.heap "java/lang/String" "COMPACT_STRINGS" "Z" (.int G1)) (P1 : ¬ G1 = 0) (lA lT lS lB eP eD eF tN tT tP tQ tS tB : Addr) (B : own_Sta Z lA lT lS lB eP eD eF tN tT tP tQ tS tB) (ws : List Jvm.Cond) (c0 : Int32) (h0 : Heap) (n0 : Nat) (Z0 : n0 ≤ h0.size) (XO : Old Z n0 h0) (hp0 : ¬ c0 < 0) (hp : ¬ ((255 : Int32) < c0)) :
    MetFree l (⟨"java/lang/String", "valueOf", "(C)Ljava/lang/String;"⟩ : MethodName) (head1 (Jvm.Cond.code (⟨"java/lang/String", "valueOf", "(C)Ljava/lang/String;"⟩ : MethodName) jdk_42_method_139_code 1 (some (.object "java/lang/String")) :: ws) ({ frames := 2, cells := 2, slots := 5, locals := 27 } : Room)) (fun a U => a = #[(.int c0)] ∧ Z.Warmed39 U.vm ∧ U.heap = h0) (fun _ _ _ _ _ => True) (fun _ U o U' => ∃ v L, o = .returned v ∧ (own_Q_vof Z c0 h0 n0) v U'.heap L ∧ FrameEnd U o U' L ({ frames := 2, cells := 2, slots := 5, locals := 27 } : Room).cells ({ frames := 2, cells := 2, slots := 5, locals := 27 } : Room).slots) := by
  refine MetFree.of_bodySF (plainFor_of_name own_pn1) hisR ?_
  intro p e s m args below meth c s₁ Bd hml0 hP hK
  obtain ⟨rfl, hZ, hh⟩ := hP
  have hx := Bd.exec
  have hby := Bd.bytes
  have hlk : meth.locks = false := BodyLoose.notSynchronized Bd
  have hml : c.maxLocals = 1 := hml0
  have hown : s.vm.findClass "java/lang/String" = some m.cls := findClass_of_methodNamed Bd.named
  have hnm := (name_of_methodNamed Bd.named Bd.method).1
  have X0 : Stand p l e ({ frames := 2, cells := 2, slots := 5, locals := 27 } : Room) s m #[(.int c0)] below meth c s₁ [] 0 0 := Stand.of_body Bd
  have e0 : s₁.heap = h0 := by rw [← hh, Bd.state]; rfl
  have N0 := Fr.nil n0
  show own_Fin p e below (s₁.setTop (entryFrame m #[(.int c0)] 1)) (own_End s ((own_Q_vof Z c0 h0 n0)) ({ frames := 2, cells := 2, slots := 5, locals := 27 } : Room).cells ({ frames := 2, cells := 2, slots := 5, locals := 27 } : Room).slots)
  refine own_st (S' := s₁.setTop (mkF m 0 #[.val (.int c0)] [])) (fun _ k => castTop (own_ef_vof m c0) k) ?_
  have S101 : Sta Z h0 "java/lang/String" "COMPACT_STRINGS" "Z" (.int G1) := (S1.ext XO.2)
  obtain ⟨T102, X102, e102, st102⟩ := getS2 X0 hx hZ hown (host := "") (Or.inl (hw _ own_w14)) Via.refl e0 S101 (g := (mkF m 0 #[.val (.int c0)] [])) rfl (hb hby own_d_jdk_42_method_139_code_0)
  refine own_st (S' := T102.setTop (mkF m 3 #[.val (.int c0)] [(.int G1)])) st102 ?_
  refine own_st (S' := T102.setTop (mkF m 7 #[.val (.int c0)] [(.int c0)])) (fun _ k => XS.ifNo X102.here hx rfl (hb hby own_d_jdk_42_method_139_code_3) rfl ((if0 _ _).trans (feq P1).1) (XS.iloadN X102.here hx rfl (hb hby own_d_jdk_42_method_139_code_6) rfl k)) ?_
  obtain ⟨_, _, ⟨T103, L103, k103, n103⟩, -, X103, ⟨Lc103, hQ103, l103, y103, z103⟩, st103⟩ := Jvm.LawKit.callS X102 hx (y := (⟨"java/lang/StringLatin1", "canEncode", "(C)Z"⟩ : MethodName)) hown (mvT hZ (hw _ own_w61)) (mvT hZ (hw _ own_w62)) (mvT hZ (hw _ own_w63)) (mvT hZ (hw _ own_w64)) (by decide) (backOf (W := 0) (own_rm_canenc l Z a0 hw G1 S1 P1 lA lT lS lB eP eD eF tN tT tP tQ tS tB B [] c0 h0 n0 (Nat.le_trans Z0 (Nat.le_refl _)) XO hp) hZ (hw _ own_w64) (hw _ own_w63) (by decide) (by decide)) (g := (mkF m 7 #[.val (.int c0)] [(.int c0)])) rfl (by rw [hml]; rfl) (argsL := [(.int c0)]) (rest := []) (lenOf own_pd0 rfl) rfl (by show 2 * 0 + _ ≤ _; exact Nat.le_of_eq rfl) (hb hby own_d_jdk_42_method_139_code_7) (fun _ _ => ⟨rfl, e102, (by decide : 0 + 0 ≤ _), (by decide : 0 + 0 ≤ _)⟩)
  dsimp only [Pt.U, Pt.locs, Pt.cells, Pt.slots] at X103 l103 y103 z103 st103 hQ103
  subst l103 y103 z103
  obtain ⟨rfl, M103, e103⟩ := hQ103
  have N103 := Fr.app N0 M103
  refine own_st (S' := T103.setTop (mkF m 10 #[.val (.int c0)] [(.int (1 : Int32))])) st103 ?_
  refine own_st (S' := T103.setTop (mkF m 13 #[.val (.int c0)] [])) (fun _ k => XS.ifNo X103.here hx rfl (hb hby own_d_jdk_42_method_139_code_10) rfl (by decide) k) ?_
  obtain ⟨T104, h104, X104, e104, E104, A104, D104, -, st104⟩ := newO X103 hx hZ hown (hw _ own_w65) (hw _ own_w2) (hw _ own_w3) e103 (g := (mkF m 13 #[.val (.int c0)] [])) rfl (hb hby own_d_jdk_42_method_139_code_13) (by decide) (by decide)
  obtain ⟨b104, g104⟩ : ∃ z, z = h0.size := ⟨_, rfl⟩
  rw [← g104] at A104 D104 st104
  refine own_st (S' := T104.setTop (mkF m 16 #[.val (.int c0)] [(.ref b104)])) st104 ?_
  refine own_st (S' := T104.setTop (mkF m 18 #[.val (.int c0)] [(.int c0), (.ref b104), (.ref b104)])) (fun _ k => XS.dup X104.here hx rfl (hb hby own_d_jdk_42_method_139_code_16) rfl rfl (XS.iloadN X104.here hx rfl (hb hby own_d_jdk_42_method_139_code_17) rfl k)) ?_
  have XO105 : Old Z n0 h104 := (XO.ext E104)
  obtain ⟨_, _, ⟨T106, L106, k106, n106⟩, -, X106, ⟨Lc106, hQ106, l106, y106, z106⟩, st106⟩ := Jvm.LawKit.callS X104 hx (y := (⟨"java/lang/StringLatin1", "toBytes", "(C)[B"⟩ : MethodName)) hown (mvT hZ (hw _ own_w66)) (mvT hZ (hw _ own_w67)) (mvT hZ (hw _ own_w63)) (mvT hZ (hw _ own_w68)) (by decide) (backOf (W := 2) (own_rm_tob l Z a0 hw G1 S1 P1 lA lT lS lB eP eD eF tN tT tP tQ tS tB B [] c0 h104 n0 (Nat.le_trans Z0 E104.1) XO105 ) hZ (hw _ own_w68) (hw _ own_w63) (by decide) (by decide)) (g := (mkF m 18 #[.val (.int c0)] [(.int c0), (.ref b104), (.ref b104)])) rfl (by rw [hml]; rfl) (argsL := [(.int c0)]) (rest := [(.ref b104), (.ref b104)]) (lenOf own_pd1 rfl) rfl (by show 2 * 0 + _ ≤ _; exact Nat.le_of_eq rfl) (hb hby own_d_jdk_42_method_139_code_18) (fun _ _ => ⟨rfl, e104, (by decide : 1 + 1 ≤ _), (by decide : 4 + 1 ≤ _)⟩)
  dsimp only [Pt.U, Pt.locs, Pt.cells, Pt.slots] at X106 l106 y106 z106 st106 hQ106
  subst l106 y106 z106
  obtain ⟨r106, kr106, rfl, M106, E106, g106, V106⟩ := hQ106
  have N106 := Fr.app N103 M106
  obtain ⟨h106, e106⟩ : ∃ z, T106.heap = z := ⟨_, rfl⟩
  rw [e106] at E106 V106
  refine own_st (S' := T106.setTop (mkF m 21 #[.val (.int c0)] [(.ref r106), (.ref b104), (.ref b104)])) st106 ?_
  refine own_st (S' := T106.setTop (mkF m 22 #[.val (.int c0)] [(.int (0 : Int32)), (.ref r106), (.ref b104), (.ref b104)])) (fun _ k => XS.iconst X106.here hx rfl (hb hby own_d_jdk_42_method_139_code_21) k) ?_
  have A107 : Exa Z h106 b104 "java/lang/String" := (A104.ext E106)
  have F108 : Fld Z h106 b104 "java/lang/String" "value" "[B" .null := ((D104 (Or.inr (hw _ own_w29)) (ty := (.array .byte)) (by decide)).ext E106)
  have F109 : Fld Z h106 b104 "java/lang/String" "coder" "B" (.int (0 : Int32)) := ((D104 (Or.inr (hw _ own_w27)) (ty := .byte) (by decide)).ext E106)
  have XO110 : Old Z n0 h106 := (XO105.ext E106)
  obtain ⟨_, _, ⟨T111, L111, k111, n111⟩, -, X111, ⟨Lc111, hQ111, l111, y111, z111⟩, st111⟩ := X106.specialBack hx (y := (⟨"java/lang/String", "<init>", "([BB)V"⟩ : MethodName)) rfl hown (mvT hZ (hw _ own_w69)) (mvT hZ (hw _ own_w70)) (mvT hZ (hw _ own_w71)) (by decide) (backOf (W := 1) (own_rm_initb l Z a0 hw G1 S1 P1 lA lT lS lB eP eD eF tN tT tP tQ tS tB B [] b104 r106 _ _ h106 n0 (Nat.le_trans Z0 (Nat.le_trans E104.1 E106.1)) XO110 (Nat.le_trans Z0 (Nat.le_of_eq g104.symm)) A107 F108 F109) hZ (hw _ own_w71) (hw _ own_w3) (by decide) (by decide)) (g := (mkF m 22 #[.val (.int c0)] [(.int (0 : Int32)), (.ref r106), (.ref b104), (.ref b104)])) rfl (by rw [hml]; rfl) (Steps.refl _) (a := b104) (argsL := [(.ref r106), (.int (0 : Int32))]) (rest := [(.ref b104)]) (lenOf own_pd2 rfl) rfl (by show 2 * 0 + _ ≤ _; exact Nat.le_of_eq rfl) (hb hby own_d_jdk_42_method_139_code_22) (fun _ _ => ⟨rfl, e106, (by decide : 2 + 0 ≤ _), (by decide : 5 + 0 ≤ _)⟩)
  dsimp only [Pt.U, Pt.locs, Pt.cells, Pt.slots] at X111 l111 y111 z111 st111 hQ111
  subst l111 y111 z111
  obtain ⟨rfl, M111, K111, Fv111, Fc111⟩ := hQ111
  have N111 := Fr.app N106 M111
  obtain ⟨h111, e111⟩ : ∃ z, T111.heap = z := ⟨_, rfl⟩
  rw [e111] at K111 Fv111 Fc111
  refine own_tr (S' := T111.setTop (mkF m 25 #[.val (.int c0)] [(.ref b104)])) st111 ?_
  have XE112 : Ext h0 h111 := (own_xk (own_xt E104 E106) K111 (allS (Nat.le_of_eq g104.symm) all0))
  have A113 : Exa Z h111 b104 "java/lang/String" := (A107.keep K111)
  have V114 : Arv Z h111 r106 kr106 .byte (1 : Int32) [(.int c0.toInt8.toInt32)] (.int 0) := (V106.keep K111 (ninS (Ne.symm (Nat.ne_of_lt (Nat.lt_of_lt_of_le A104.lt g106))) nin0))
  refine own_ret X111 hx Bd.returns hlk rfl (Or.inr (Or.inr (Or.inr (Or.inr ⟨rfl, rfl, rfl⟩)))) (hb hby own_d_jdk_42_method_139_code_25) (by decide) (by decide) ?_
  rw [e111]
  exact ⟨b104, rfl, N111, XE112, (Nat.le_of_eq g104.symm), own_Str.one A113 Fv111 Fc111 V114 hp0 hp⟩
def own_Q_of00 (Z : State) (lA : Addr) (h0 : Heap) (n0 : Nat) (v : Option Value) (h : Heap) (L : List Loc) : Prop := v = some (.ref lA) ∧ Fr n0 L ∧ h = h0
theorem own_ef_of00 (m : MethodId) : entryFrame m #[.null, .null] 2 = mkF m 0 #[.val .null, .val .null] [] := by first | (simp [entryFrame, mkF, argsToLocals, Value.category, maxLocals]; done) | rfl
set_option maxRecDepth 65536 in
set_option maxHeartbeats 40000000 in
theorem own_rm_of00 (l : Launch) (Z : State) (a0 : Array Value) (hw : ∀ d ∈ tables_1, d.before a0 Z = true) (G1 : Int32) (S1 : Sta Z Z.heap "java/lang/String" "COMPACT_STRINGS" "Z" (.int G1)) (P1 : ¬ G1 = 0) (lA lT lS lB eP eD eF tN tT tP tQ tS tB : Addr) (B : own_Sta Z lA lT lS lB eP eD eF tN tT tP tQ tS tB) (ws : List Jvm.Cond) (h0 : Heap) (n0 : Nat) (Z0 : n0 ≤ h0.size) (XO : Old Z n0 h0) :
    MetFree l (⟨"com/example/task_callbacks/taskcallbacks/event/Listing", "of", "(Lcom/example/task_callbacks/taskcallbacks/event/EventStatus;Ljava/lang/String;)Lcom/example/task_callbacks/taskcallbacks/event/Listing;"⟩ : MethodName) (head1 (Jvm.Cond.code (⟨"com/example/task_callbacks/taskcallbacks/event/Listing", "of", "(Lcom/example/task_callbacks/taskcallbacks/event/EventStatus;Ljava/lang/String;)Lcom/example/task_callbacks/taskcallbacks/event/Listing;"⟩ : MethodName) prog_18_method_4_code 2 (some (.object "com/example/task_callbacks/taskcallbacks/event/Listing")) :: ws) ({ frames := 0, cells := 0, slots := 0, locals := 0 } : Room)) (fun a U => a = #[.null, .null] ∧ Z.Warmed39 U.vm ∧ U.heap = h0) (fun _ _ _ _ _ => True) (fun _ U o U' => ∃ v L, o = .returned v ∧ (own_Q_of00 Z lA h0 n0) v U'.heap L ∧ FrameEnd U o U' L ({ frames := 0, cells := 0, slots := 0, locals := 0 } : Room).cells ({ frames := 0, cells := 0, slots := 0, locals := 0 } : Room).slots) := by
  refine MetFree.of_bodySF (plainFor_of_name own_pn2) hisR ?_
  intro p e s m args below meth c s₁ Bd hml0 hP hK
  obtain ⟨rfl, hZ, hh⟩ := hP
  have hx := Bd.exec
  have hby := Bd.bytes
  have hlk : meth.locks = false := BodyLoose.notSynchronized Bd
  have hml : c.maxLocals = 2 := hml0
  have hown : s.vm.findClass "com/example/task_callbacks/taskcallbacks/event/Listing" = some m.cls := findClass_of_methodNamed Bd.named
  have hnm := (name_of_methodNamed Bd.named Bd.method).1
  have X0 : Stand p l e ({ frames := 0, cells := 0, slots := 0, locals := 0 } : Room) s m #[.null, .null] below meth c s₁ [] 0 0 := Stand.of_body Bd
  have e0 : s₁.heap = h0 := by rw [← hh, Bd.state]; rfl
  have N0 := Fr.nil n0
  show own_Fin p e below (s₁.setTop (entryFrame m #[.null, .null] 2)) (own_End s ((own_Q_of00 Z lA h0 n0)) ({ frames := 0, cells := 0, slots := 0, locals := 0 } : Room).cells ({ frames := 0, cells := 0, slots := 0, locals := 0 } : Room).slots)
  refine own_st (S' := s₁.setTop (mkF m 0 #[.val .null, .val .null] [])) (fun _ k => castTop (own_ef_of00 m) k) ?_
  obtain ⟨B0, B1, B2, B3, B4, B5, B6, B7, B8, B9, B10, B11, B12, B13, B14, B15, B16, B17, B18, B19, B20, B21, B22, B23, B24, B25, B26⟩ := id B
  refine own_st (S' := s₁.setTop (mkF m 8 #[.val .null, .val .null] [])) (fun _ k => XS.aloadN X0.here hx rfl (hb hby own_d_prog_18_method_4_code_0) rfl rfl (XS.ifnonnullNo X0.here hx rfl (hb hby own_d_prog_18_method_4_code_1) rfl (XS.aloadN X0.here hx rfl (hb hby own_d_prog_18_method_4_code_4) rfl rfl (XS.ifnonnullNo X0.here hx rfl (hb hby own_d_prog_18_method_4_code_5) rfl k)))) ?_
  have S101 : Sta Z h0 "com/example/task_callbacks/taskcallbacks/event/Listing" "ALL" "Lcom/example/task_callbacks/taskcallbacks/event/Listing;" (.ref lA) := (B0.ext XO.2)
  obtain ⟨T102, X102, e102, st102⟩ := getS2 X0 hx hZ hown (host := "") (Or.inl (hw _ own_w83)) Via.refl e0 S101 (g := (mkF m 8 #[.val .null, .val .null] [])) rfl (hb hby own_d_prog_18_method_4_code_8)
  refine own_st (S' := T102.setTop (mkF m 11 #[.val .null, .val .null] [(.ref lA)])) st102 ?_
  refine own_st (S' := T102.setTop (mkF m 17 #[.val .null, .val .null] [(.ref lA)])) (fun _ k => XS.goto X102.here hx rfl (pc0 := 11) (pc' := 17) rfl (hb hby own_d_prog_18_method_4_code_11) (by decide) (by decide) k) ?_
  refine own_ret X102 hx Bd.returns hlk rfl (Or.inr (Or.inr (Or.inr (Or.inr ⟨rfl, rfl, rfl⟩)))) (hb hby own_d_prog_18_method_4_code_17) (by decide) (by decide) ?_
  rw [e102]
  exact ⟨rfl, N0, rfl⟩
def own_Q_of01 (Z : State) (lT : Addr) (h0 : Heap) (n0 : Nat) (v : Option Value) (h : Heap) (L : List Loc) : Prop := v = some (.ref lT) ∧ Fr n0 L ∧ h = h0
theorem own_ef_of01 (m : MethodId) (t0 : Addr) : entryFrame m #[.null, (.ref t0)] 2 = mkF m 0 #[.val .null, .val (.ref t0)] [] := by first | (simp [entryFrame, mkF, argsToLocals, Value.category, maxLocals]; done) | rfl
set_option maxRecDepth 65536 in
set_option maxHeartbeats 40000000 in
theorem own_rm_of01 (l : Launch) (Z : State) (a0 : Array Value) (hw : ∀ d ∈ tables_1, d.before a0 Z = true) (G1 : Int32) (S1 : Sta Z Z.heap "java/lang/String" "COMPACT_STRINGS" "Z" (.int G1)) (P1 : ¬ G1 = 0) (lA lT lS lB eP eD eF tN tT tP tQ tS tB : Addr) (B : own_Sta Z lA lT lS lB eP eD eF tN tT tP tQ tS tB) (ws : List Jvm.Cond) (t0 : Addr) (h0 : Heap) (n0 : Nat) (Z0 : n0 ≤ h0.size) (XO : Old Z n0 h0) :
    MetFree l (⟨"com/example/task_callbacks/taskcallbacks/event/Listing", "of", "(Lcom/example/task_callbacks/taskcallbacks/event/EventStatus;Ljava/lang/String;)Lcom/example/task_callbacks/taskcallbacks/event/Listing;"⟩ : MethodName) (head1 (Jvm.Cond.code (⟨"com/example/task_callbacks/taskcallbacks/event/Listing", "of", "(Lcom/example/task_callbacks/taskcallbacks/event/EventStatus;Ljava/lang/String;)Lcom/example/task_callbacks/taskcallbacks/event/Listing;"⟩ : MethodName) prog_18_method_4_code 2 (some (.object "com/example/task_callbacks/taskcallbacks/event/Listing")) :: ws) ({ frames := 0, cells := 0, slots := 0, locals := 0 } : Room)) (fun a U => a = #[.null, (.ref t0)] ∧ Z.Warmed39 U.vm ∧ U.heap = h0) (fun _ _ _ _ _ => True) (fun _ U o U' => ∃ v L, o = .returned v ∧ (own_Q_of01 Z lT h0 n0) v U'.heap L ∧ FrameEnd U o U' L ({ frames := 0, cells := 0, slots := 0, locals := 0 } : Room).cells ({ frames := 0, cells := 0, slots := 0, locals := 0 } : Room).slots) := by
  refine MetFree.of_bodySF (plainFor_of_name own_pn2) hisR ?_
  intro p e s m args below meth c s₁ Bd hml0 hP hK
  obtain ⟨rfl, hZ, hh⟩ := hP
  have hx := Bd.exec
  have hby := Bd.bytes
  have hlk : meth.locks = false := BodyLoose.notSynchronized Bd
  have hml : c.maxLocals = 2 := hml0
  have hown : s.vm.findClass "com/example/task_callbacks/taskcallbacks/event/Listing" = some m.cls := findClass_of_methodNamed Bd.named
  have hnm := (name_of_methodNamed Bd.named Bd.method).1
  have X0 : Stand p l e ({ frames := 0, cells := 0, slots := 0, locals := 0 } : Room) s m #[.null, (.ref t0)] below meth c s₁ [] 0 0 := Stand.of_body Bd
  have e0 : s₁.heap = h0 := by rw [← hh, Bd.state]; rfl
  have N0 := Fr.nil n0
  show own_Fin p e below (s₁.setTop (entryFrame m #[.null, (.ref t0)] 2)) (own_End s ((own_Q_of01 Z lT h0 n0)) ({ frames := 0, cells := 0, slots := 0, locals := 0 } : Room).cells ({ frames := 0, cells := 0, slots := 0, locals := 0 } : Room).slots)
  refine own_st (S' := s₁.setTop (mkF m 0 #[.val .null, .val (.ref t0)] [])) (fun _ k => castTop (own_ef_of01 m t0) k) ?_
  obtain ⟨B0, B1, B2, B3, B4, B5, B6, B7, B8, B9, B10, B11, B12, B13, B14, B15, B16, B17, B18, B19, B20, B21, B22, B23, B24, B25, B26⟩ := id B
  refine own_st (S' := s₁.setTop (mkF m 14 #[.val .null, .val (.ref t0)] [])) (fun _ k => XS.aloadN X0.here hx rfl (hb hby own_d_prog_18_method_4_code_0) rfl rfl (XS.ifnonnullNo X0.here hx rfl (hb hby own_d_prog_18_method_4_code_1) rfl (XS.aloadN X0.here hx rfl (hb hby own_d_prog_18_method_4_code_4) rfl rfl (XS.ifnonnullYes X0.here hx rfl (pc0 := 5) (pc' := 14) rfl (hb hby own_d_prog_18_method_4_code_5) rfl (by decide) (by decide) k)))) ?_
  have S101 : Sta Z h0 "com/example/task_callbacks/taskcallbacks/event/Listing" "BY_TYPE" "Lcom/example/task_callbacks/taskcallbacks/event/Listing;" (.ref lT) := (B1.ext XO.2)
  obtain ⟨T102, X102, e102, st102⟩ := getS2 X0 hx hZ hown (host := "") (Or.inl (hw _ own_w34)) Via.refl e0 S101 (g := (mkF m 14 #[.val .null, .val (.ref t0)] [])) rfl (hb hby own_d_prog_18_method_4_code_14)
  refine own_st (S' := T102.setTop (mkF m 17 #[.val .null, .val (.ref t0)] [(.ref lT)])) st102 ?_
  refine own_ret X102 hx Bd.returns hlk rfl (Or.inr (Or.inr (Or.inr (Or.inr ⟨rfl, rfl, rfl⟩)))) (hb hby own_d_prog_18_method_4_code_17) (by decide) (by decide) ?_
  rw [e102]
  exact ⟨rfl, N0, rfl⟩
def own_Q_of10 (Z : State) (lS : Addr) (h0 : Heap) (n0 : Nat) (v : Option Value) (h : Heap) (L : List Loc) : Prop := v = some (.ref lS) ∧ Fr n0 L ∧ h = h0
theorem own_ef_of10 (m : MethodId) (s0 : Addr) : entryFrame m #[(.ref s0), .null] 2 = mkF m 0 #[.val (.ref s0), .val .null] [] := by first | (simp [entryFrame, mkF, argsToLocals, Value.category, maxLocals]; done) | rfl
set_option maxRecDepth 65536 in
set_option maxHeartbeats 40000000 in
theorem own_rm_of10 (l : Launch) (Z : State) (a0 : Array Value) (hw : ∀ d ∈ tables_1, d.before a0 Z = true) (G1 : Int32) (S1 : Sta Z Z.heap "java/lang/String" "COMPACT_STRINGS" "Z" (.int G1)) (P1 : ¬ G1 = 0) (lA lT lS lB eP eD eF tN tT tP tQ tS tB : Addr) (B : own_Sta Z lA lT lS lB eP eD eF tN tT tP tQ tS tB) (ws : List Jvm.Cond) (s0 : Addr) (h0 : Heap) (n0 : Nat) (Z0 : n0 ≤ h0.size) (XO : Old Z n0 h0) :
    MetFree l (⟨"com/example/task_callbacks/taskcallbacks/event/Listing", "of", "(Lcom/example/task_callbacks/taskcallbacks/event/EventStatus;Ljava/lang/String;)Lcom/example/task_callbacks/taskcallbacks/event/Listing;"⟩ : MethodName) (head1 (Jvm.Cond.code (⟨"com/example/task_callbacks/taskcallbacks/event/Listing", "of", "(Lcom/example/task_callbacks/taskcallbacks/event/EventStatus;Ljava/lang/String;)Lcom/example/task_callbacks/taskcallbacks/event/Listing;"⟩ : MethodName) prog_18_method_4_code 2 (some (.object "com/example/task_callbacks/taskcallbacks/event/Listing")) :: ws) ({ frames := 0, cells := 0, slots := 0, locals := 0 } : Room)) (fun a U => a = #[(.ref s0), .null] ∧ Z.Warmed39 U.vm ∧ U.heap = h0) (fun _ _ _ _ _ => True) (fun _ U o U' => ∃ v L, o = .returned v ∧ (own_Q_of10 Z lS h0 n0) v U'.heap L ∧ FrameEnd U o U' L ({ frames := 0, cells := 0, slots := 0, locals := 0 } : Room).cells ({ frames := 0, cells := 0, slots := 0, locals := 0 } : Room).slots) := by
  refine MetFree.of_bodySF (plainFor_of_name own_pn2) hisR ?_
  intro p e s m args below meth c s₁ Bd hml0 hP hK
  obtain ⟨rfl, hZ, hh⟩ := hP
  have hx := Bd.exec
  have hby := Bd.bytes
  have hlk : meth.locks = false := BodyLoose.notSynchronized Bd
  have hml : c.maxLocals = 2 := hml0
  have hown : s.vm.findClass "com/example/task_callbacks/taskcallbacks/event/Listing" = some m.cls := findClass_of_methodNamed Bd.named
  have hnm := (name_of_methodNamed Bd.named Bd.method).1
  have X0 : Stand p l e ({ frames := 0, cells := 0, slots := 0, locals := 0 } : Room) s m #[(.ref s0), .null] below meth c s₁ [] 0 0 := Stand.of_body Bd
  have e0 : s₁.heap = h0 := by rw [← hh, Bd.state]; rfl
  have N0 := Fr.nil n0
  show own_Fin p e below (s₁.setTop (entryFrame m #[(.ref s0), .null] 2)) (own_End s ((own_Q_of10 Z lS h0 n0)) ({ frames := 0, cells := 0, slots := 0, locals := 0 } : Room).cells ({ frames := 0, cells := 0, slots := 0, locals := 0 } : Room).slots)
  refine own_st (S' := s₁.setTop (mkF m 0 #[.val (.ref s0), .val .null] [])) (fun _ k => castTop (own_ef_of10 m s0) k) ?_
  obtain ⟨B0, B1, B2, B3, B4, B5, B6, B7, B8, B9, B10, B11, B12, B13, B14, B15, B16, B17, B18, B19, B20, B21, B22, B23, B24, B25, B26⟩ := id B
  refine own_st (S' := s₁.setTop (mkF m 22 #[.val (.ref s0), .val .null] [])) (fun _ k => XS.aloadN X0.here hx rfl (hb hby own_d_prog_18_method_4_code_0) rfl rfl (XS.ifnonnullYes X0.here hx rfl (pc0 := 1) (pc' := 18) rfl (hb hby own_d_prog_18_method_4_code_1) rfl (by decide) (by decide) (XS.aloadN X0.here hx rfl (hb hby own_d_prog_18_method_4_code_18) rfl rfl (XS.ifnonnullNo X0.here hx rfl (hb hby own_d_prog_18_method_4_code_19) rfl k)))) ?_
  have S101 : Sta Z h0 "com/example/task_callbacks/taskcallbacks/event/Listing" "BY_STATUS" "Lcom/example/task_callbacks/taskcallbacks/event/Listing;" (.ref lS) := (B2.ext XO.2)
  obtain ⟨T102, X102, e102, st102⟩ := getS2 X0 hx hZ hown (host := "") (Or.inl (hw _ own_w72)) Via.refl e0 S101 (g := (mkF m 22 #[.val (.ref s0), .val .null] [])) rfl (hb hby own_d_prog_18_method_4_code_22)
  refine own_st (S' := T102.setTop (mkF m 25 #[.val (.ref s0), .val .null] [(.ref lS)])) st102 ?_
  refine own_st (S' := T102.setTop (mkF m 31 #[.val (.ref s0), .val .null] [(.ref lS)])) (fun _ k => XS.goto X102.here hx rfl (pc0 := 25) (pc' := 31) rfl (hb hby own_d_prog_18_method_4_code_25) (by decide) (by decide) k) ?_
  refine own_ret X102 hx Bd.returns hlk rfl (Or.inr (Or.inr (Or.inr (Or.inr ⟨rfl, rfl, rfl⟩)))) (hb hby own_d_prog_18_method_4_code_31) (by decide) (by decide) ?_
  rw [e102]
  exact ⟨rfl, N0, rfl⟩
def own_Q_of11 (Z : State) (lB : Addr) (h0 : Heap) (n0 : Nat) (v : Option Value) (h : Heap) (L : List Loc) : Prop := v = some (.ref lB) ∧ Fr n0 L ∧ h = h0
theorem own_ef_of11 (m : MethodId) (s0 : Addr) (t0 : Addr) : entryFrame m #[(.ref s0), (.ref t0)] 2 = mkF m 0 #[.val (.ref s0), .val (.ref t0)] [] := by first | (simp [entryFrame, mkF, argsToLocals, Value.category, maxLocals]; done) | rfl
set_option maxRecDepth 65536 in
set_option maxHeartbeats 40000000 in
theorem own_rm_of11 (l : Launch) (Z : State) (a0 : Array Value) (hw : ∀ d ∈ tables_1, d.before a0 Z = true) (G1 : Int32) (S1 : Sta Z Z.heap "java/lang/String" "COMPACT_STRINGS" "Z" (.int G1)) (P1 : ¬ G1 = 0) (lA lT lS lB eP eD eF tN tT tP tQ tS tB : Addr) (B : own_Sta Z lA lT lS lB eP eD eF tN tT tP tQ tS tB) (ws : List Jvm.Cond) (s0 t0 : Addr) (h0 : Heap) (n0 : Nat) (Z0 : n0 ≤ h0.size) (XO : Old Z n0 h0) :
    MetFree l (⟨"com/example/task_callbacks/taskcallbacks/event/Listing", "of", "(Lcom/example/task_callbacks/taskcallbacks/event/EventStatus;Ljava/lang/String;)Lcom/example/task_callbacks/taskcallbacks/event/Listing;"⟩ : MethodName) (head1 (Jvm.Cond.code (⟨"com/example/task_callbacks/taskcallbacks/event/Listing", "of", "(Lcom/example/task_callbacks/taskcallbacks/event/EventStatus;Ljava/lang/String;)Lcom/example/task_callbacks/taskcallbacks/event/Listing;"⟩ : MethodName) prog_18_method_4_code 2 (some (.object "com/example/task_callbacks/taskcallbacks/event/Listing")) :: ws) ({ frames := 0, cells := 0, slots := 0, locals := 0 } : Room)) (fun a U => a = #[(.ref s0), (.ref t0)] ∧ Z.Warmed39 U.vm ∧ U.heap = h0) (fun _ _ _ _ _ => True) (fun _ U o U' => ∃ v L, o = .returned v ∧ (own_Q_of11 Z lB h0 n0) v U'.heap L ∧ FrameEnd U o U' L ({ frames := 0, cells := 0, slots := 0, locals := 0 } : Room).cells ({ frames := 0, cells := 0, slots := 0, locals := 0 } : Room).slots) := by
  refine MetFree.of_bodySF (plainFor_of_name own_pn2) hisR ?_
  intro p e s m args below meth c s₁ Bd hml0 hP hK
  obtain ⟨rfl, hZ, hh⟩ := hP
  have hx := Bd.exec
  have hby := Bd.bytes
  have hlk : meth.locks = false := BodyLoose.notSynchronized Bd
  have hml : c.maxLocals = 2 := hml0
  have hown : s.vm.findClass "com/example/task_callbacks/taskcallbacks/event/Listing" = some m.cls := findClass_of_methodNamed Bd.named
  have hnm := (name_of_methodNamed Bd.named Bd.method).1
  have X0 : Stand p l e ({ frames := 0, cells := 0, slots := 0, locals := 0 } : Room) s m #[(.ref s0), (.ref t0)] below meth c s₁ [] 0 0 := Stand.of_body Bd
  have e0 : s₁.heap = h0 := by rw [← hh, Bd.state]; rfl
  have N0 := Fr.nil n0
  show own_Fin p e below (s₁.setTop (entryFrame m #[(.ref s0), (.ref t0)] 2)) (own_End s ((own_Q_of11 Z lB h0 n0)) ({ frames := 0, cells := 0, slots := 0, locals := 0 } : Room).cells ({ frames := 0, cells := 0, slots := 0, locals := 0 } : Room).slots)
  refine own_st (S' := s₁.setTop (mkF m 0 #[.val (.ref s0), .val (.ref t0)] [])) (fun _ k => castTop (own_ef_of11 m s0 t0) k) ?_
  obtain ⟨B0, B1, B2, B3, B4, B5, B6, B7, B8, B9, B10, B11, B12, B13, B14, B15, B16, B17, B18, B19, B20, B21, B22, B23, B24, B25, B26⟩ := id B
  refine own_st (S' := s₁.setTop (mkF m 28 #[.val (.ref s0), .val (.ref t0)] [])) (fun _ k => XS.aloadN X0.here hx rfl (hb hby own_d_prog_18_method_4_code_0) rfl rfl (XS.ifnonnullYes X0.here hx rfl (pc0 := 1) (pc' := 18) rfl (hb hby own_d_prog_18_method_4_code_1) rfl (by decide) (by decide) (XS.aloadN X0.here hx rfl (hb hby own_d_prog_18_method_4_code_18) rfl rfl (XS.ifnonnullYes X0.here hx rfl (pc0 := 19) (pc' := 28) rfl (hb hby own_d_prog_18_method_4_code_19) rfl (by decide) (by decide) k)))) ?_
  have S101 : Sta Z h0 "com/example/task_callbacks/taskcallbacks/event/Listing" "BY_STATUS_AND_TYPE" "Lcom/example/task_callbacks/taskcallbacks/event/Listing;" (.ref lB) := (B3.ext XO.2)
  obtain ⟨T102, X102, e102, st102⟩ := getS2 X0 hx hZ hown (host := "") (Or.inl (hw _ own_w51)) Via.refl e0 S101 (g := (mkF m 28 #[.val (.ref s0), .val (.ref t0)] [])) rfl (hb hby own_d_prog_18_method_4_code_28)
  refine own_st (S' := T102.setTop (mkF m 31 #[.val (.ref s0), .val (.ref t0)] [(.ref lB)])) st102 ?_
  refine own_ret X102 hx Bd.returns hlk rfl (Or.inr (Or.inr (Or.inr (Or.inr ⟨rfl, rfl, rfl⟩)))) (hb hby own_d_prog_18_method_4_code_31) (by decide) (by decide) ?_
  rw [e102]
  exact ⟨rfl, N0, rfl⟩
def own_Q_ta_null (Z : State) (t0 : Addr) (h0 : Heap) (n0 : Nat) (v : Option Value) (h : Heap) (L : List Loc) : Prop := v = some (.ref t0) ∧ Fr n0 L ∧ h = h0
theorem own_ef_ta_null (m : MethodId) (l0 : Addr) : entryFrame m #[(.ref l0), .null] 2 = mkF m 0 #[.val (.ref l0), .val .null] [] := by first | (simp [entryFrame, mkF, argsToLocals, Value.category, maxLocals]; done) | rfl
set_option maxRecDepth 65536 in
set_option maxHeartbeats 40000000 in
theorem own_rm_ta_null (l : Launch) (Z : State) (a0 : Array Value) (hw : ∀ d ∈ tables_1, d.before a0 Z = true) (G1 : Int32) (S1 : Sta Z Z.heap "java/lang/String" "COMPACT_STRINGS" "Z" (.int G1)) (P1 : ¬ G1 = 0) (lA lT lS lB eP eD eF tN tT tP tQ tS tB : Addr) (B : own_Sta Z lA lT lS lB eP eD eF tN tT tP tQ tS tB) (ws : List Jvm.Cond) (l0 t0 : Addr) (h0 : Heap) (n0 : Nat) (Z0 : n0 ≤ h0.size) (XO : Old Z n0 h0) (F0 : Fld Z Z.heap l0 "com/example/task_callbacks/taskcallbacks/event/Listing" "settled" "Lcom/example/task_callbacks/taskcallbacks/store/Table;" (.ref t0)) :
    MetFree l (⟨"com/example/task_callbacks/taskcallbacks/event/Listing", "table", "(Lcom/example/task_callbacks/taskcallbacks/event/EventStatus;)Lcom/example/task_callbacks/taskcallbacks/store/Table;"⟩ : MethodName) (head1 (Jvm.Cond.code (⟨"com/example/task_callbacks/taskcallbacks/event/Listing", "table", "(Lcom/example/task_callbacks/taskcallbacks/event/EventStatus;)Lcom/example/task_callbacks/taskcallbacks/store/Table;"⟩ : MethodName) prog_18_method_5_code 2 (some (.object "com/example/task_callbacks/taskcallbacks/store/Table")) :: ws) ({ frames := 0, cells := 0, slots := 0, locals := 0 } : Room)) (fun a U => a = #[(.ref l0), .null] ∧ Z.Warmed39 U.vm ∧ U.heap = h0) (fun _ _ _ _ _ => True) (fun _ U o U' => ∃ v L, o = .returned v ∧ (own_Q_ta_null Z t0 h0 n0) v U'.heap L ∧ FrameEnd U o U' L ({ frames := 0, cells := 0, slots := 0, locals := 0 } : Room).cells ({ frames := 0, cells := 0, slots := 0, locals := 0 } : Room).slots) := by
  refine MetFree.of_bodySF (plainFor_of_name own_pn2) hisR ?_
  intro p e s m args below meth c s₁ Bd hml0 hP hK
  obtain ⟨rfl, hZ, hh⟩ := hP
  have hx := Bd.exec
  have hby := Bd.bytes
  have hlk : meth.locks = false := BodyLoose.notSynchronized Bd
  have hml : c.maxLocals = 2 := hml0
  have hown : s.vm.findClass "com/example/task_callbacks/taskcallbacks/event/Listing" = some m.cls := findClass_of_methodNamed Bd.named
  have hnm := (name_of_methodNamed Bd.named Bd.method).1
  have X0 : Stand p l e ({ frames := 0, cells := 0, slots := 0, locals := 0 } : Room) s m #[(.ref l0), .null] below meth c s₁ [] 0 0 := Stand.of_body Bd
  have e0 : s₁.heap = h0 := by rw [← hh, Bd.state]; rfl
  have N0 := Fr.nil n0
  show own_Fin p e below (s₁.setTop (entryFrame m #[(.ref l0), .null] 2)) (own_End s ((own_Q_ta_null Z t0 h0 n0)) ({ frames := 0, cells := 0, slots := 0, locals := 0 } : Room).cells ({ frames := 0, cells := 0, slots := 0, locals := 0 } : Room).slots)
  refine own_st (S' := s₁.setTop (mkF m 0 #[.val (.ref l0), .val .null] [])) (fun _ k => castTop (own_ef_ta_null m l0) k) ?_
  obtain ⟨B0, B1, B2, B3, B4, B5, B6, B7, B8, B9, B10, B11, B12, B13, B14, B15, B16, B17, B18, B19, B20, B21, B22, B23, B24, B25, B26⟩ := id B
  refine own_st (S' := s₁.setTop (mkF m 1 #[.val (.ref l0), .val .null] [.null])) (fun _ k => XS.aloadN X0.here hx rfl (hb hby own_d_prog_18_method_5_code_0) rfl rfl k) ?_
  have S101 : Sta Z h0 "com/example/task_callbacks/taskcallbacks/event/EventStatus" "PENDING" "Lcom/example/task_callbacks/taskcallbacks/event/EventStatus;" (.ref eP) := (B4.ext XO.2)
  obtain ⟨T102, X102, e102, st102⟩ := getS2 X0 hx hZ hown (host := "") (Or.inl (hw _ own_w44)) Via.refl e0 S101 (g := (mkF m 1 #[.val (.ref l0), .val .null] [.null])) rfl (hb hby own_d_prog_18_method_5_code_1)
  refine own_st (S' := T102.setTop (mkF m 4 #[.val (.ref l0), .val .null] [(.ref eP), .null])) st102 ?_
  refine own_st (S' := T102.setTop (mkF m 14 #[.val (.ref l0), .val .null] [])) (fun _ k => Jvm.RoadKit.acmp (g := (mkF m 4 #[.val (.ref l0), .val .null] [(.ref eP), .null])) X102 hx rfl rfl rfl (pc0 := 4) (pc' := 14) (same := false) rfl (hb hby own_d_prog_18_method_5_code_4) rfl (decide_eq_false nofun) (by decide) (by decide) k) ?_
  refine own_st (S' := T102.setTop (mkF m 15 #[.val (.ref l0), .val .null] [(.ref l0)])) (fun _ k => XS.aloadN X102.here hx rfl (hb hby own_d_prog_18_method_5_code_14) rfl rfl k) ?_
  have F103 : Fld Z h0 l0 "com/example/task_callbacks/taskcallbacks/event/Listing" "settled" "Lcom/example/task_callbacks/taskcallbacks/store/Table;" (.ref t0) := (F0.ext XO.2)
  obtain ⟨T104, X104, e104, st104⟩ := getF X102 hx hZ hown (host := "") (Or.inl (hw _ own_w47)) Via.refl e102 F103 (g := (mkF m 15 #[.val (.ref l0), .val .null] [(.ref l0)])) rfl rfl (hb hby own_d_prog_18_method_5_code_15)
  refine own_st (S' := T104.setTop (mkF m 18 #[.val (.ref l0), .val .null] [(.ref t0)])) st104 ?_
  refine own_ret X104 hx Bd.returns hlk rfl (Or.inr (Or.inr (Or.inr (Or.inr ⟨rfl, rfl, rfl⟩)))) (hb hby own_d_prog_18_method_5_code_18) (by decide) (by decide) ?_
  rw [e104]
  exact ⟨rfl, N0, rfl⟩
def own_Q_ta_eP (Z : State) (t0 : Addr) (h0 : Heap) (n0 : Nat) (v : Option Value) (h : Heap) (L : List Loc) : Prop := v = some (.ref t0) ∧ Fr n0 L ∧ h = h0
theorem own_ef_ta_eP (m : MethodId) (l0 eP : Addr) : entryFrame m #[(.ref l0), (.ref eP)] 2 = mkF m 0 #[.val (.ref l0), .val (.ref eP)] [] := by first | (simp [entryFrame, mkF, argsToLocals, Value.category, maxLocals]; done) | rfl
set_option maxRecDepth 65536 in
set_option maxHeartbeats 40000000 in
theorem own_rm_ta_eP (l : Launch) (Z : State) (a0 : Array Value) (hw : ∀ d ∈ tables_1, d.before a0 Z = true) (G1 : Int32) (S1 : Sta Z Z.heap "java/lang/String" "COMPACT_STRINGS" "Z" (.int G1)) (P1 : ¬ G1 = 0) (lA lT lS lB eP eD eF tN tT tP tQ tS tB : Addr) (B : own_Sta Z lA lT lS lB eP eD eF tN tT tP tQ tS tB) (ws : List Jvm.Cond) (l0 t0 : Addr) (h0 : Heap) (n0 : Nat) (Z0 : n0 ≤ h0.size) (XO : Old Z n0 h0) (F0 : Fld Z Z.heap l0 "com/example/task_callbacks/taskcallbacks/event/Listing" "pending" "Lcom/example/task_callbacks/taskcallbacks/store/Table;" (.ref t0)) :
    MetFree l (⟨"com/example/task_callbacks/taskcallbacks/event/Listing", "table", "(Lcom/example/task_callbacks/taskcallbacks/event/EventStatus;)Lcom/example/task_callbacks/taskcallbacks/store/Table;"⟩ : MethodName) (head1 (Jvm.Cond.code (⟨"com/example/task_callbacks/taskcallbacks/event/Listing", "table", "(Lcom/example/task_callbacks/taskcallbacks/event/EventStatus;)Lcom/example/task_callbacks/taskcallbacks/store/Table;"⟩ : MethodName) prog_18_method_5_code 2 (some (.object "com/example/task_callbacks/taskcallbacks/store/Table")) :: ws) ({ frames := 0, cells := 0, slots := 0, locals := 0 } : Room)) (fun a U => a = #[(.ref l0), (.ref eP)] ∧ Z.Warmed39 U.vm ∧ U.heap = h0) (fun _ _ _ _ _ => True) (fun _ U o U' => ∃ v L, o = .returned v ∧ (own_Q_ta_eP Z t0 h0 n0) v U'.heap L ∧ FrameEnd U o U' L ({ frames := 0, cells := 0, slots := 0, locals := 0 } : Room).cells ({ frames := 0, cells := 0, slots := 0, locals := 0 } : Room).slots) := by
  refine MetFree.of_bodySF (plainFor_of_name own_pn2) hisR ?_
  intro p e s m args below meth c s₁ Bd hml0 hP hK
  obtain ⟨rfl, hZ, hh⟩ := hP
  have hx := Bd.exec
  have hby := Bd.bytes
  have hlk : meth.locks = false := BodyLoose.notSynchronized Bd
  have hml : c.maxLocals = 2 := hml0
  have hown : s.vm.findClass "com/example/task_callbacks/taskcallbacks/event/Listing" = some m.cls := findClass_of_methodNamed Bd.named
  have hnm := (name_of_methodNamed Bd.named Bd.method).1
  have X0 : Stand p l e ({ frames := 0, cells := 0, slots := 0, locals := 0 } : Room) s m #[(.ref l0), (.ref eP)] below meth c s₁ [] 0 0 := Stand.of_body Bd
  have e0 : s₁.heap = h0 := by rw [← hh, Bd.state]; rfl
  have N0 := Fr.nil n0
  show own_Fin p e below (s₁.setTop (entryFrame m #[(.ref l0), (.ref eP)] 2)) (own_End s ((own_Q_ta_eP Z t0 h0 n0)) ({ frames := 0, cells := 0, slots := 0, locals := 0 } : Room).cells ({ frames := 0, cells := 0, slots := 0, locals := 0 } : Room).slots)
  refine own_st (S' := s₁.setTop (mkF m 0 #[.val (.ref l0), .val (.ref eP)] [])) (fun _ k => castTop (own_ef_ta_eP m l0 eP) k) ?_
  obtain ⟨B0, B1, B2, B3, B4, B5, B6, B7, B8, B9, B10, B11, B12, B13, B14, B15, B16, B17, B18, B19, B20, B21, B22, B23, B24, B25, B26⟩ := id B
  refine own_st (S' := s₁.setTop (mkF m 1 #[.val (.ref l0), .val (.ref eP)] [(.ref eP)])) (fun _ k => XS.aloadN X0.here hx rfl (hb hby own_d_prog_18_method_5_code_0) rfl rfl k) ?_
  have S101 : Sta Z h0 "com/example/task_callbacks/taskcallbacks/event/EventStatus" "PENDING" "Lcom/example/task_callbacks/taskcallbacks/event/EventStatus;" (.ref eP) := (B4.ext XO.2)
  obtain ⟨T102, X102, e102, st102⟩ := getS2 X0 hx hZ hown (host := "") (Or.inl (hw _ own_w44)) Via.refl e0 S101 (g := (mkF m 1 #[.val (.ref l0), .val (.ref eP)] [(.ref eP)])) rfl (hb hby own_d_prog_18_method_5_code_1)
  refine own_st (S' := T102.setTop (mkF m 4 #[.val (.ref l0), .val (.ref eP)] [(.ref eP), (.ref eP)])) st102 ?_
  refine own_st (S' := T102.setTop (mkF m 7 #[.val (.ref l0), .val (.ref eP)] [])) (fun _ k => Jvm.RoadKit.acmp (g := (mkF m 4 #[.val (.ref l0), .val (.ref eP)] [(.ref eP), (.ref eP)])) X102 hx rfl rfl rfl (pc0 := 4) (pc' := 7) (same := true) rfl (hb hby own_d_prog_18_method_5_code_4) rfl (decide_eq_true rfl) (by decide) (by decide) k) ?_
  refine own_st (S' := T102.setTop (mkF m 8 #[.val (.ref l0), .val (.ref eP)] [(.ref l0)])) (fun _ k => XS.aloadN X102.here hx rfl (hb hby own_d_prog_18_method_5_code_7) rfl rfl k) ?_
  have F103 : Fld Z h0 l0 "com/example/task_callbacks/taskcallbacks/event/Listing" "pending" "Lcom/example/task_callbacks/taskcallbacks/store/Table;" (.ref t0) := (F0.ext XO.2)
  obtain ⟨T104, X104, e104, st104⟩ := getF X102 hx hZ hown (host := "") (Or.inl (hw _ own_w76)) Via.refl e102 F103 (g := (mkF m 8 #[.val (.ref l0), .val (.ref eP)] [(.ref l0)])) rfl rfl (hb hby own_d_prog_18_method_5_code_8)
  refine own_st (S' := T104.setTop (mkF m 11 #[.val (.ref l0), .val (.ref eP)] [(.ref t0)])) st104 ?_
  refine own_st (S' := T104.setTop (mkF m 18 #[.val (.ref l0), .val (.ref eP)] [(.ref t0)])) (fun _ k => XS.goto X104.here hx rfl (pc0 := 11) (pc' := 18) rfl (hb hby own_d_prog_18_method_5_code_11) (by decide) (by decide) k) ?_
  refine own_ret X104 hx Bd.returns hlk rfl (Or.inr (Or.inr (Or.inr (Or.inr ⟨rfl, rfl, rfl⟩)))) (hb hby own_d_prog_18_method_5_code_18) (by decide) (by decide) ?_
  rw [e104]
  exact ⟨rfl, N0, rfl⟩
def own_Q_ta_oth (Z : State) (t0 : Addr) (h0 : Heap) (n0 : Nat) (v : Option Value) (h : Heap) (L : List Loc) : Prop := v = some (.ref t0) ∧ Fr n0 L ∧ h = h0
theorem own_ef_ta_oth (m : MethodId) (l0 : Addr) (s0 : Addr) : entryFrame m #[(.ref l0), (.ref s0)] 2 = mkF m 0 #[.val (.ref l0), .val (.ref s0)] [] := by first | (simp [entryFrame, mkF, argsToLocals, Value.category, maxLocals]; done) | rfl
set_option maxRecDepth 65536 in
set_option maxHeartbeats 40000000 in
theorem own_rm_ta_oth (l : Launch) (Z : State) (a0 : Array Value) (hw : ∀ d ∈ tables_1, d.before a0 Z = true) (G1 : Int32) (S1 : Sta Z Z.heap "java/lang/String" "COMPACT_STRINGS" "Z" (.int G1)) (P1 : ¬ G1 = 0) (lA lT lS lB eP eD eF tN tT tP tQ tS tB : Addr) (B : own_Sta Z lA lT lS lB eP eD eF tN tT tP tQ tS tB) (ws : List Jvm.Cond) (l0 t0 s0 : Addr) (h0 : Heap) (n0 : Nat) (Z0 : n0 ≤ h0.size) (XO : Old Z n0 h0) (F0 : Fld Z Z.heap l0 "com/example/task_callbacks/taskcallbacks/event/Listing" "settled" "Lcom/example/task_callbacks/taskcallbacks/store/Table;" (.ref t0)) (hne : s0 ≠ eP) :
    MetFree l (⟨"com/example/task_callbacks/taskcallbacks/event/Listing", "table", "(Lcom/example/task_callbacks/taskcallbacks/event/EventStatus;)Lcom/example/task_callbacks/taskcallbacks/store/Table;"⟩ : MethodName) (head1 (Jvm.Cond.code (⟨"com/example/task_callbacks/taskcallbacks/event/Listing", "table", "(Lcom/example/task_callbacks/taskcallbacks/event/EventStatus;)Lcom/example/task_callbacks/taskcallbacks/store/Table;"⟩ : MethodName) prog_18_method_5_code 2 (some (.object "com/example/task_callbacks/taskcallbacks/store/Table")) :: ws) ({ frames := 0, cells := 0, slots := 0, locals := 0 } : Room)) (fun a U => a = #[(.ref l0), (.ref s0)] ∧ Z.Warmed39 U.vm ∧ U.heap = h0) (fun _ _ _ _ _ => True) (fun _ U o U' => ∃ v L, o = .returned v ∧ (own_Q_ta_oth Z t0 h0 n0) v U'.heap L ∧ FrameEnd U o U' L ({ frames := 0, cells := 0, slots := 0, locals := 0 } : Room).cells ({ frames := 0, cells := 0, slots := 0, locals := 0 } : Room).slots) := by
  refine MetFree.of_bodySF (plainFor_of_name own_pn2) hisR ?_
  intro p e s m args below meth c s₁ Bd hml0 hP hK
  obtain ⟨rfl, hZ, hh⟩ := hP
  have hx := Bd.exec
  have hby := Bd.bytes
  have hlk : meth.locks = false := BodyLoose.notSynchronized Bd
  have hml : c.maxLocals = 2 := hml0
  have hown : s.vm.findClass "com/example/task_callbacks/taskcallbacks/event/Listing" = some m.cls := findClass_of_methodNamed Bd.named
  have hnm := (name_of_methodNamed Bd.named Bd.method).1
  have X0 : Stand p l e ({ frames := 0, cells := 0, slots := 0, locals := 0 } : Room) s m #[(.ref l0), (.ref s0)] below meth c s₁ [] 0 0 := Stand.of_body Bd
  have e0 : s₁.heap = h0 := by rw [← hh, Bd.state]; rfl
  have N0 := Fr.nil n0
  show own_Fin p e below (s₁.setTop (entryFrame m #[(.ref l0), (.ref s0)] 2)) (own_End s ((own_Q_ta_oth Z t0 h0 n0)) ({ frames := 0, cells := 0, slots := 0, locals := 0 } : Room).cells ({ frames := 0, cells := 0, slots := 0, locals := 0 } : Room).slots)
  refine own_st (S' := s₁.setTop (mkF m 0 #[.val (.ref l0), .val (.ref s0)] [])) (fun _ k => castTop (own_ef_ta_oth m l0 s0) k) ?_
  obtain ⟨B0, B1, B2, B3, B4, B5, B6, B7, B8, B9, B10, B11, B12, B13, B14, B15, B16, B17, B18, B19, B20, B21, B22, B23, B24, B25, B26⟩ := id B
  refine own_st (S' := s₁.setTop (mkF m 1 #[.val (.ref l0), .val (.ref s0)] [(.ref s0)])) (fun _ k => XS.aloadN X0.here hx rfl (hb hby own_d_prog_18_method_5_code_0) rfl rfl k) ?_
  have S101 : Sta Z h0 "com/example/task_callbacks/taskcallbacks/event/EventStatus" "PENDING" "Lcom/example/task_callbacks/taskcallbacks/event/EventStatus;" (.ref eP) := (B4.ext XO.2)
  obtain ⟨T102, X102, e102, st102⟩ := getS2 X0 hx hZ hown (host := "") (Or.inl (hw _ own_w44)) Via.refl e0 S101 (g := (mkF m 1 #[.val (.ref l0), .val (.ref s0)] [(.ref s0)])) rfl (hb hby own_d_prog_18_method_5_code_1)
  refine own_st (S' := T102.setTop (mkF m 4 #[.val (.ref l0), .val (.ref s0)] [(.ref eP), (.ref s0)])) st102 ?_
  refine own_st (S' := T102.setTop (mkF m 14 #[.val (.ref l0), .val (.ref s0)] [])) (fun _ k => Jvm.RoadKit.acmp (g := (mkF m 4 #[.val (.ref l0), .val (.ref s0)] [(.ref eP), (.ref s0)])) X102 hx rfl rfl rfl (pc0 := 4) (pc' := 14) (same := false) rfl (hb hby own_d_prog_18_method_5_code_4) rfl (decide_eq_false fun q => hne (Value.ref.inj q)) (by decide) (by decide) k) ?_
  refine own_st (S' := T102.setTop (mkF m 15 #[.val (.ref l0), .val (.ref s0)] [(.ref l0)])) (fun _ k => XS.aloadN X102.here hx rfl (hb hby own_d_prog_18_method_5_code_14) rfl rfl k) ?_
  have F103 : Fld Z h0 l0 "com/example/task_callbacks/taskcallbacks/event/Listing" "settled" "Lcom/example/task_callbacks/taskcallbacks/store/Table;" (.ref t0) := (F0.ext XO.2)
  obtain ⟨T104, X104, e104, st104⟩ := getF X102 hx hZ hown (host := "") (Or.inl (hw _ own_w47)) Via.refl e102 F103 (g := (mkF m 15 #[.val (.ref l0), .val (.ref s0)] [(.ref l0)])) rfl rfl (hb hby own_d_prog_18_method_5_code_15)
  refine own_st (S' := T104.setTop (mkF m 18 #[.val (.ref l0), .val (.ref s0)] [(.ref t0)])) st104 ?_
  refine own_ret X104 hx Bd.returns hlk rfl (Or.inr (Or.inr (Or.inr (Or.inr ⟨rfl, rfl, rfl⟩)))) (hb hby own_d_prog_18_method_5_code_18) (by decide) (by decide) ?_
  rw [e104]
  exact ⟨rfl, N0, rfl⟩
def own_Q_law (Z : State) (h0 : Heap) (n0 : Nat) (v : Option Value) (h : Heap) (vm : Vm) (L : List Loc) : Prop := v = some (.int 1) ∧ Fr n0 L
theorem own_ef_law (m : MethodId) (p0 : Int32) (p1 : Int32) (p2 : Int32) (p3 : Int32) : entryFrame m #[(.int p0), (.int p1), (.int p2), (.int p3)] maxLocals = mkF m 0 #[.val (.int p0), .val (.int p1), .val (.int p2), .val (.int p3), .unset, .unset, .unset, .unset, .unset, .unset, .unset] [] := by first | (simp [entryFrame, mkF, argsToLocals, Value.category, maxLocals]; done) | rfl
set_option maxRecDepth 65536 in
set_option maxHeartbeats 40000000 in
theorem own_rm_law (l : Launch) (Z : State) (a0 : Array Value) (hw : ∀ d ∈ tables_1, d.before a0 Z = true) (G1 : Int32) (S1 : Sta Z Z.heap "java/lang/String" "COMPACT_STRINGS" "Z" (.int G1)) (P1 : ¬ G1 = 0) (lA lT lS lB eP eD eF tN tT tP tQ tS tB : Addr) (B : own_Sta Z lA lT lS lB eP eD eF tN tT tP tQ tS tB) (ws : List Jvm.Cond) (p0 p1 p2 p3 : Int32) (h0 : Heap) (n0 : Nat) (Z0 : n0 ≤ h0.size) (XO : Old Z n0 h0) :
    MetFree l x (head1 (Jvm.Cond.code x code maxLocals ret :: ws) (room_1 : Room)) (fun a U => a = #[(.int p0), (.int p1), (.int p2), (.int p3)] ∧ Z.Warmed39 U.vm ∧ U.heap = h0) (fun _ _ _ _ _ => True) (fun _ U o U' => ∃ v L, o = .returned v ∧ (own_Q_law Z h0 n0) v U'.heap U'.vm L ∧ ReturnedEndW U o U' L 16 1152) := by
  refine MetFree.of_bodySF (plainFor_of_name own_pn3) hisR ?_
  intro p e s m args below meth c s₁ Bd hml0 hP hK
  obtain ⟨rfl, hZ, hh⟩ := hP
  have hx := Bd.exec
  have hby := Bd.bytes
  have hlk : meth.locks = false := BodyLoose.notSynchronized Bd
  have hml : c.maxLocals = 11 := hml0
  have hown : s.vm.findClass "com/example/task_callbacks/taskcallbacks/event/ListingOfPinLaw" = some m.cls := findClass_of_methodNamed Bd.named
  have hnm := (name_of_methodNamed Bd.named Bd.method).1
  have X0 : Stand p l e (room_1 : Room) s m #[(.int p0), (.int p1), (.int p2), (.int p3)] below meth c s₁ [] 0 0 := Stand.of_body Bd
  have e0 : s₁.heap = h0 := by rw [← hh, Bd.state]; rfl
  have N0 := Fr.nil n0
  show own_Fin p e below (s₁.setTop (entryFrame m #[(.int p0), (.int p1), (.int p2), (.int p3)] maxLocals)) (own_EndW s ((own_Q_law Z h0 n0)) 16 1152)
  refine own_st (S' := s₁.setTop (mkF m 0 #[.val (.int p0), .val (.int p1), .val (.int p2), .val (.int p3), .unset, .unset, .unset, .unset, .unset, .unset, .unset] [])) (fun _ k => castTop (own_ef_law m p0 p1 p2 p3) k) ?_
  obtain ⟨B0, B1, B2, B3, B4, B5, B6, B7, B8, B9, B10, B11, B12, B13, B14, B15, B16, B17, B18, B19, B20, B21, B22, B23, B24, B25, B26⟩ := id B
  refine own_st (S' := s₁.setTop (mkF m 5 #[.val (.int p0), .val (.int p1), .val (.int p2), .val (.int p3), .val (.int (p0 &&& (3 : Int32))), .unset, .unset, .unset, .unset, .unset, .unset] [])) (fun _ k => XS.iloadN X0.here hx rfl (hb hby at_0) rfl (XS.iconst X0.here hx rfl (hb hby at_1) (XS.iand X0.here hx rfl (hb hby at_2) rfl (XS.istore X0.here hx rfl (hb hby at_3) rfl (l' := #[.val (.int p0), .val (.int p1), .val (.int p2), .val (.int p3), .val (.int (p0 &&& (3 : Int32))), .unset, .unset, .unset, .unset, .unset, .unset]) rfl k)))) ?_
  refine own_st (S' := s₁.setTop (mkF m 7 #[.val (.int p0), .val (.int p1), .val (.int p2), .val (.int p3), .val (.int (p0 &&& (3 : Int32))), .unset, .unset, .unset, .unset, .unset, .unset] [(.int (p0 &&& (3 : Int32)))])) (fun _ k => XS.iload X0.here hx rfl (hb hby at_5) rfl k) ?_
  by_cases hc101 : (p0 &&& (3 : Int32)) = (0 : Int32)
  · refine own_st (S' := s₁.setTop (mkF m 49 #[.val (.int p0), .val (.int p1), .val (.int p2), .val (.int p3), .val (.int (p0 &&& (3 : Int32))), .val .null, .unset, .unset, .unset, .unset, .unset] [])) (fun _ k => XS.ifNo X0.here hx rfl (hb hby at_7) rfl ((if0 _ _).trans (teq hc101).2) (XS.aconstNull X0.here hx rfl (hb hby at_10) (XS.astore X0.here hx rfl (hb hby at_11) rfl rfl (l' := #[.val (.int p0), .val (.int p1), .val (.int p2), .val (.int p3), .val (.int (p0 &&& (3 : Int32))), .val .null, .unset, .unset, .unset, .unset, .unset]) rfl (XS.goto X0.here hx rfl (pc0 := 13) (pc' := 49) rfl (hb hby at_13) (by decide) (by decide) k)))) ?_
    refine own_st (S' := s₁.setTop (mkF m 50 #[.val (.int p0), .val (.int p1), .val (.int p2), .val (.int p3), .val (.int (p0 &&& (3 : Int32))), .val .null, .unset, .unset, .unset, .unset, .unset] [(.int (2 : Int32))])) (fun _ k => XS.iconst X0.here hx rfl (hb hby at_49) k) ?_
    obtain ⟨T102, h102, k102, X102, e102, E102, A102, AE102, st102⟩ := newPE X0 hx hZ (aty := .char) (hw _ own_w0) e0 (g := (mkF m 50 #[.val (.int p0), .val (.int p1), .val (.int p2), .val (.int p3), .val (.int (p0 &&& (3 : Int32))), .val .null, .unset, .unset, .unset, .unset, .unset] [(.int (2 : Int32))])) rfl (hb hby at_50) rfl (by decide) (cap := 2) (by decide) (by decide) (by decide) (by decide) (ad := "[C") (by decide)
    obtain ⟨b102, g102⟩ : ∃ z, z = h0.size := ⟨_, rfl⟩
    rw [← g102] at A102 AE102 st102
    have V102 : Arv Z h102 b102 k102 .char (2 : Int32) [(.int (0 : Int32)), (.int (0 : Int32))] (.int (0 : Int32)) := (Arv.new A102 (by decide)).pad (pad_rep [] (.int (0 : Int32)) 2)
    refine own_st (S' := T102.setTop (mkF m 52 #[.val (.int p0), .val (.int p1), .val (.int p2), .val (.int p3), .val (.int (p0 &&& (3 : Int32))), .val .null, .unset, .unset, .unset, .unset, .unset] [(.ref b102)])) st102 ?_
    refine own_st (S' := T102.setTop (mkF m 58 #[.val (.int p0), .val (.int p1), .val (.int p2), .val (.int p3), .val (.int (p0 &&& (3 : Int32))), .val .null, .unset, .unset, .unset, .unset, .unset] [(.int (255 : Int32)), (.int p2), (.int (0 : Int32)), (.ref b102), (.ref b102)])) (fun _ k => XS.dup X102.here hx rfl (hb hby at_52) rfl rfl (XS.iconst X102.here hx rfl (hb hby at_53) (XS.iloadN X102.here hx rfl (hb hby at_54) rfl (XS.sipush X102.here hx rfl (hb hby at_55) k)))) ?_
    refine own_st (S' := T102.setTop (mkF m 60 #[.val (.int p0), .val (.int p1), .val (.int p2), .val (.int p3), .val (.int (p0 &&& (3 : Int32))), .val .null, .unset, .unset, .unset, .unset, .unset] [(.int ((p2 &&& (255 : Int32)).toUInt32.toUInt16.toUInt32.toInt32)), (.int (0 : Int32)), (.ref b102), (.ref b102)])) (fun _ k => XS.iand X102.here hx rfl (hb hby at_58) rfl (XS.i2c X102.here hx rfl (hb hby at_59) rfl k)) ?_
    obtain ⟨c103, A103, q103, S103, M103, H103, U103⟩ := id V102
    obtain ⟨T103, h103, X103, e103, W103, st103⟩ := stC X102 hx hZ e102 A103 (j := (0 : Int32)) (inb_of S103 ⟨by decide, by decide⟩) (g := (mkF m 60 #[.val (.int p0), .val (.int p1), .val (.int p2), .val (.int p3), .val (.int (p0 &&& (3 : Int32))), .val .null, .unset, .unset, .unset, .unset, .unset] [(.int ((p2 &&& (255 : Int32)).toUInt32.toUInt16.toUInt32.toInt32)), (.int (0 : Int32)), (.ref b102), (.ref b102)])) rfl rfl (hb hby at_60)
    have N103 := Fr.snoc X103 N0 (Nat.le_trans Z0 (Nat.le_of_eq g102.symm))
    have V103 : Arv Z h103 b102 k102 .char (2 : Int32) [(.int (nar .char ((p2 &&& (255 : Int32)).toUInt32.toUInt16.toUInt32.toInt32))), (.int (0 : Int32))] (.int (0 : Int32)) := Arv.set A103 q103 S103 M103 H103 U103 (fits_nar_char _) W103 0 rfl (Nat.le_of_ble_eq_true rfl)
    refine own_st (S' := T103.setTop (mkF m 61 #[.val (.int p0), .val (.int p1), .val (.int p2), .val (.int p3), .val (.int (p0 &&& (3 : Int32))), .val .null, .unset, .unset, .unset, .unset, .unset] [(.ref b102)])) st103 ?_
    refine own_st (S' := T103.setTop (mkF m 67 #[.val (.int p0), .val (.int p1), .val (.int p2), .val (.int p3), .val (.int (p0 &&& (3 : Int32))), .val .null, .unset, .unset, .unset, .unset, .unset] [(.int (255 : Int32)), (.int p3), (.int (1 : Int32)), (.ref b102), (.ref b102)])) (fun _ k => XS.dup X103.here hx rfl (hb hby at_61) rfl rfl (XS.iconst X103.here hx rfl (hb hby at_62) (XS.iloadN X103.here hx rfl (hb hby at_63) rfl (XS.sipush X103.here hx rfl (hb hby at_64) k)))) ?_
    refine own_st (S' := T103.setTop (mkF m 69 #[.val (.int p0), .val (.int p1), .val (.int p2), .val (.int p3), .val (.int (p0 &&& (3 : Int32))), .val .null, .unset, .unset, .unset, .unset, .unset] [(.int ((p3 &&& (255 : Int32)).toUInt32.toUInt16.toUInt32.toInt32)), (.int (1 : Int32)), (.ref b102), (.ref b102)])) (fun _ k => XS.iand X103.here hx rfl (hb hby at_67) rfl (XS.i2c X103.here hx rfl (hb hby at_68) rfl k)) ?_
    obtain ⟨c104, A104, q104, S104, M104, H104, U104⟩ := id V103
    obtain ⟨T104, h104, X104, e104, W104, st104⟩ := stC X103 hx hZ e103 A104 (j := (1 : Int32)) (inb_of S104 ⟨by decide, by decide⟩) (g := (mkF m 69 #[.val (.int p0), .val (.int p1), .val (.int p2), .val (.int p3), .val (.int (p0 &&& (3 : Int32))), .val .null, .unset, .unset, .unset, .unset, .unset] [(.int ((p3 &&& (255 : Int32)).toUInt32.toUInt16.toUInt32.toInt32)), (.int (1 : Int32)), (.ref b102), (.ref b102)])) rfl rfl (hb hby at_69)
    have N104 := Fr.snoc X104 N103 (Nat.le_trans Z0 (Nat.le_of_eq g102.symm))
    have V104 : Arv Z h104 b102 k102 .char (2 : Int32) [(.int (nar .char ((p2 &&& (255 : Int32)).toUInt32.toUInt16.toUInt32.toInt32))), (.int (nar .char ((p3 &&& (255 : Int32)).toUInt32.toUInt16.toUInt32.toInt32)))] (.int (0 : Int32)) := Arv.set A104 q104 S104 M104 H104 U104 (fits_nar_char _) W104 1 rfl (Nat.le_of_ble_eq_true rfl)
    refine own_st (S' := T104.setTop (mkF m 70 #[.val (.int p0), .val (.int p1), .val (.int p2), .val (.int p3), .val (.int (p0 &&& (3 : Int32))), .val .null, .unset, .unset, .unset, .unset, .unset] [(.ref b102)])) st104 ?_
    refine own_st (S' := T104.setTop (mkF m 75 #[.val (.int p0), .val (.int p1), .val (.int p2), .val (.int p3), .val (.int (p0 &&& (3 : Int32))), .val .null, .val (.ref b102), .unset, .unset, .unset, .unset] [(.int (p1 &&& (3 : Int32)))])) (fun _ k => XS.astore X104.here hx rfl (hb hby at_70) rfl rfl (l' := #[.val (.int p0), .val (.int p1), .val (.int p2), .val (.int p3), .val (.int (p0 &&& (3 : Int32))), .val .null, .val (.ref b102), .unset, .unset, .unset, .unset]) rfl (XS.iloadN X104.here hx rfl (hb hby at_72) rfl (XS.iconst X104.here hx rfl (hb hby at_73) (XS.iand X104.here hx rfl (hb hby at_74) rfl k)))) ?_
    refine own_st (S' := T104.setTop (mkF m 79 #[.val (.int p0), .val (.int p1), .val (.int p2), .val (.int p3), .val (.int (p0 &&& (3 : Int32))), .val .null, .val (.ref b102), .val (.int (p1 &&& (3 : Int32))), .unset, .unset, .unset] [(.int (p1 &&& (3 : Int32)))])) (fun _ k => XS.istore X104.here hx rfl (hb hby at_75) rfl (l' := #[.val (.int p0), .val (.int p1), .val (.int p2), .val (.int p3), .val (.int (p0 &&& (3 : Int32))), .val .null, .val (.ref b102), .val (.int (p1 &&& (3 : Int32))), .unset, .unset, .unset]) rfl (XS.iload X104.here hx rfl (hb hby at_77) rfl k)) ?_
    by_cases hc105 : (p1 &&& (3 : Int32)) = (0 : Int32)
    · refine own_st (S' := T104.setTop (mkF m 132 #[.val (.int p0), .val (.int p1), .val (.int p2), .val (.int p3), .val (.int (p0 &&& (3 : Int32))), .val .null, .val (.ref b102), .val (.int (p1 &&& (3 : Int32))), .val .null, .unset, .unset] [])) (fun _ k => XS.ifNo X104.here hx rfl (hb hby at_79) rfl ((if0 _ _).trans (teq hc105).2) (XS.aconstNull X104.here hx rfl (hb hby at_82) (XS.astore X104.here hx rfl (hb hby at_83) rfl rfl (l' := #[.val (.int p0), .val (.int p1), .val (.int p2), .val (.int p3), .val (.int (p0 &&& (3 : Int32))), .val .null, .val (.ref b102), .val (.int (p1 &&& (3 : Int32))), .val .null, .unset, .unset]) rfl (XS.goto X104.here hx rfl (pc0 := 85) (pc' := 132) rfl (hb hby at_85) (by decide) (by decide) k)))) ?_
      refine own_st (S' := T104.setTop (mkF m 136 #[.val (.int p0), .val (.int p1), .val (.int p2), .val (.int p3), .val (.int (p0 &&& (3 : Int32))), .val .null, .val (.ref b102), .val (.int (p1 &&& (3 : Int32))), .val .null, .unset, .unset] [.null, .null])) (fun _ k => XS.aload X104.here hx rfl (hb hby at_132) rfl rfl (XS.aload X104.here hx rfl (hb hby at_134) rfl rfl k)) ?_
      have XE106 : Ext h0 h104 := (own_xw (own_xw E102 W103 (Nat.le_of_eq g102.symm)) W104 (Nat.le_of_eq g102.symm))
      have XO107 : Old Z n0 h104 := (XO.ext XE106)
      obtain ⟨_, _, ⟨T108, L108, k108, n108⟩, -, X108, ⟨Lc108, hQ108, l108, y108, z108⟩, st108⟩ := Jvm.LawKit.callS X104 hx (y := (⟨"com/example/task_callbacks/taskcallbacks/event/Listing", "of", "(Lcom/example/task_callbacks/taskcallbacks/event/EventStatus;Ljava/lang/String;)Lcom/example/task_callbacks/taskcallbacks/event/Listing;"⟩ : MethodName)) hown (mvT hZ (hw _ own_w30)) (mvT hZ (hw _ own_w31)) (mvT hZ (hw _ own_w32)) (mvT hZ (hw _ own_w33)) (by decide) (backOf (W := 0) (own_rm_of00 l Z a0 hw G1 S1 P1 lA lT lS lB eP eD eF tN tT tP tQ tS tB B []  h104 n0 (Nat.le_trans Z0 (Nat.le_trans (Nat.le_trans E102.1 (Nat.le_of_eq W103.size.symm)) (Nat.le_of_eq W104.size.symm))) XO107 ) hZ (hw _ own_w33) (hw _ own_w32) (by decide) (by decide)) (g := (mkF m 136 #[.val (.int p0), .val (.int p1), .val (.int p2), .val (.int p3), .val (.int (p0 &&& (3 : Int32))), .val .null, .val (.ref b102), .val (.int (p1 &&& (3 : Int32))), .val .null, .unset, .unset] [.null, .null])) rfl (by rw [hml]; rfl) (argsL := [.null, .null]) (rest := []) (lenOf own_pd3 rfl) rfl (by show 2 * 0 + _ ≤ _; exact Nat.le_of_eq rfl) (hb hby at_136) (fun _ _ => ⟨rfl, e104, (by decide : 1 + 0 ≤ _), (by decide : 2 + 0 ≤ _)⟩)
      dsimp only [Pt.U, Pt.locs, Pt.cells, Pt.slots] at X108 l108 y108 z108 st108 hQ108
      subst l108 y108 z108
      obtain ⟨rfl, M108, e108⟩ := hQ108
      have N108 := Fr.app N104 M108
      refine own_st (S' := T108.setTop (mkF m 139 #[.val (.int p0), .val (.int p1), .val (.int p2), .val (.int p3), .val (.int (p0 &&& (3 : Int32))), .val .null, .val (.ref b102), .val (.int (p1 &&& (3 : Int32))), .val .null, .unset, .unset] [(.ref lA)])) st108 ?_
      refine own_st (S' := T108.setTop (mkF m 150 #[.val (.int p0), .val (.int p1), .val (.int p2), .val (.int p3), .val (.int (p0 &&& (3 : Int32))), .val .null, .val (.ref b102), .val (.int (p1 &&& (3 : Int32))), .val .null, .val (.ref lA), .unset] [.null])) (fun _ k => XS.astore X108.here hx rfl (hb hby at_139) rfl rfl (l' := #[.val (.int p0), .val (.int p1), .val (.int p2), .val (.int p3), .val (.int (p0 &&& (3 : Int32))), .val .null, .val (.ref b102), .val (.int (p1 &&& (3 : Int32))), .val .null, .val (.ref lA), .unset]) rfl (XS.aload X108.here hx rfl (hb hby at_141) rfl rfl (XS.ifnonnullYes X108.here hx rfl (pc0 := 143) (pc' := 148) rfl (hb hby at_143) rfl (by decide) (by decide) (XS.aload X108.here hx rfl (hb hby at_148) rfl rfl k)))) ?_
      refine own_st (S' := T108.setTop (mkF m 158 #[.val (.int p0), .val (.int p1), .val (.int p2), .val (.int p3), .val (.int (p0 &&& (3 : Int32))), .val .null, .val (.ref b102), .val (.int (p1 &&& (3 : Int32))), .val .null, .val (.ref lA), .unset] [])) (fun _ k => XS.ifnonnullNo X108.here hx rfl (hb hby at_150) rfl (XS.aload X108.here hx rfl (hb hby at_153) rfl rfl (XS.ifnonnullNo X108.here hx rfl (hb hby at_155) rfl k))) ?_
      have S109 : Sta Z h104 "com/example/task_callbacks/taskcallbacks/store/Table" "EVENTS_NEWEST_FIRST" "Lcom/example/task_callbacks/taskcallbacks/store/Table;" (.ref tN) := (B7.ext XO107.2)
      obtain ⟨T110, X110, e110, st110⟩ := getS2 X108 hx hZ hown (host := "") (Or.inl (hw _ own_w85)) Via.refl e108 S109 (g := (mkF m 158 #[.val (.int p0), .val (.int p1), .val (.int p2), .val (.int p3), .val (.int (p0 &&& (3 : Int32))), .val .null, .val (.ref b102), .val (.int (p1 &&& (3 : Int32))), .val .null, .val (.ref lA), .unset] [])) rfl (hb hby at_158)
      refine own_st (S' := T110.setTop (mkF m 161 #[.val (.int p0), .val (.int p1), .val (.int p2), .val (.int p3), .val (.int (p0 &&& (3 : Int32))), .val .null, .val (.ref b102), .val (.int (p1 &&& (3 : Int32))), .val .null, .val (.ref lA), .unset] [(.ref tN)])) st110 ?_
      refine own_st (S' := T110.setTop (mkF m 217 #[.val (.int p0), .val (.int p1), .val (.int p2), .val (.int p3), .val (.int (p0 &&& (3 : Int32))), .val .null, .val (.ref b102), .val (.int (p1 &&& (3 : Int32))), .val .null, .val (.ref lA), .val (.ref tN)] [(.ref lA)])) (fun _ k => XS.goto X110.here hx rfl (pc0 := 161) (pc' := 167) rfl (hb hby at_161) (by decide) (by decide) (XS.astore X110.here hx rfl (hb hby at_167) rfl rfl (l' := #[.val (.int p0), .val (.int p1), .val (.int p2), .val (.int p3), .val (.int (p0 &&& (3 : Int32))), .val .null, .val (.ref b102), .val (.int (p1 &&& (3 : Int32))), .val .null, .val (.ref lA), .val (.ref tN)]) rfl (XS.goto X110.here hx rfl (pc0 := 169) (pc' := 215) rfl (hb hby at_169) (by decide) (by decide) (XS.aload X110.here hx rfl (hb hby at_215) rfl rfl k)))) ?_
      refine own_st (S' := T110.setTop (mkF m 219 #[.val (.int p0), .val (.int p1), .val (.int p2), .val (.int p3), .val (.int (p0 &&& (3 : Int32))), .val .null, .val (.ref b102), .val (.int (p1 &&& (3 : Int32))), .val .null, .val (.ref lA), .val (.ref tN)] [.null, (.ref lA)])) (fun _ k => XS.aload X110.here hx rfl (hb hby at_217) rfl rfl k) ?_
      have A112 : Exa Z h104 lA "com/example/task_callbacks/taskcallbacks/event/Listing" := (B13.ext XO107.2)
      obtain ⟨cq111, kq111, q111a, q111b, q111c⟩ := isOf hZ e110 A112
      obtain ⟨_, _, ⟨T111, L111, k111, n111⟩, -, X111, ⟨Lc111, hQ111, l111, y111, z111⟩, st111⟩ := X110.virtualBack hx (y := (⟨"com/example/task_callbacks/taskcallbacks/event/Listing", "table", "(Lcom/example/task_callbacks/taskcallbacks/event/EventStatus;)Lcom/example/task_callbacks/taskcallbacks/store/Table;"⟩ : MethodName)) (z := (⟨"com/example/task_callbacks/taskcallbacks/event/Listing", "table", "(Lcom/example/task_callbacks/taskcallbacks/event/EventStatus;)Lcom/example/task_callbacks/taskcallbacks/store/Table;"⟩ : MethodName)) hown (mvT hZ (hw _ own_w39)) (mvT hZ (hw _ own_w40)) (notFace_of_selects (args := #[]) (mvT hZ (hw _ own_w42))) (mvT hZ (hw _ own_w42)) (mvT hZ (hw _ own_w41)) (by decide) (backOf (W := 0) (own_rm_ta_null l Z a0 hw G1 S1 P1 lA lT lS lB eP eD eF tN tT tP tQ tS tB B [] lA tN h104 n0 (Nat.le_trans Z0 (Nat.le_trans (Nat.le_trans E102.1 (Nat.le_of_eq W103.size.symm)) (Nat.le_of_eq W104.size.symm))) XO107 B17) hZ (hw _ own_w43) (hw _ own_w32) (by decide) (by decide)) q111a q111c (g := (mkF m 219 #[.val (.int p0), .val (.int p1), .val (.int p2), .val (.int p3), .val (.int (p0 &&& (3 : Int32))), .val .null, .val (.ref b102), .val (.int (p1 &&& (3 : Int32))), .val .null, .val (.ref lA), .val (.ref tN)] [.null, (.ref lA)])) rfl (by rw [hml]; rfl) (Steps.refl _) (argsL := [.null]) (rest := []) (lenOf own_pd4 rfl) rfl (by show 2 * 0 + _ ≤ _; exact Nat.le_of_eq rfl) (hb hby at_219) (fun _ _ => ⟨rfl, e110, (by decide : 1 + 0 ≤ _), (by decide : 2 + 0 ≤ _)⟩)
      dsimp only [Pt.U, Pt.locs, Pt.cells, Pt.slots] at X111 l111 y111 z111 st111 hQ111
      subst l111 y111 z111
      obtain ⟨rfl, M111, e111⟩ := hQ111
      have N111 := Fr.app N108 M111
      refine own_tr (S' := T111.setTop (mkF m 222 #[.val (.int p0), .val (.int p1), .val (.int p2), .val (.int p3), .val (.int (p0 &&& (3 : Int32))), .val .null, .val (.ref b102), .val (.int (p1 &&& (3 : Int32))), .val .null, .val (.ref lA), .val (.ref tN)] [(.ref tN)])) st111 ?_
      refine own_st (S' := T111.setTop (mkF m 224 #[.val (.int p0), .val (.int p1), .val (.int p2), .val (.int p3), .val (.int (p0 &&& (3 : Int32))), .val .null, .val (.ref b102), .val (.int (p1 &&& (3 : Int32))), .val .null, .val (.ref lA), .val (.ref tN)] [(.ref tN), (.ref tN)])) (fun _ k => XS.aload X111.here hx rfl (hb hby at_222) rfl rfl k) ?_
      refine own_st (S' := T111.setTop (mkF m 227 #[.val (.int p0), .val (.int p1), .val (.int p2), .val (.int p3), .val (.int (p0 &&& (3 : Int32))), .val .null, .val (.ref b102), .val (.int (p1 &&& (3 : Int32))), .val .null, .val (.ref lA), .val (.ref tN)] [])) (fun _ k => Jvm.RoadKit.acmp (g := (mkF m 224 #[.val (.int p0), .val (.int p1), .val (.int p2), .val (.int p3), .val (.int (p0 &&& (3 : Int32))), .val .null, .val (.ref b102), .val (.int (p1 &&& (3 : Int32))), .val .null, .val (.ref lA), .val (.ref tN)] [(.ref tN), (.ref tN)])) X111 hx rfl rfl rfl (pc0 := 224) (pc' := 227) (same := true) rfl (hb hby at_224) rfl (decide_eq_true rfl) (by decide) (by decide) k) ?_
      refine own_st (S' := T111.setTop (mkF m 232 #[.val (.int p0), .val (.int p1), .val (.int p2), .val (.int p3), .val (.int (p0 &&& (3 : Int32))), .val .null, .val (.ref b102), .val (.int (p1 &&& (3 : Int32))), .val .null, .val (.ref lA), .val (.ref tN)] [(.int (1 : Int32))])) (fun _ k => XS.iconst X111.here hx rfl (hb hby at_227) (XS.goto X111.here hx rfl (pc0 := 228) (pc' := 232) rfl (hb hby at_228) (by decide) (by decide) k)) ?_
      refine own_retNW X111 hx Bd.returns hlk rfl (Or.inl ⟨rfl, (by simp), _, rfl⟩) (hb hby at_232) (by decide) (by decide) ?_
      rw [e111]
      exact ⟨rfl, N111⟩
    · refine own_st (S' := T104.setTop (mkF m 91 #[.val (.int p0), .val (.int p1), .val (.int p2), .val (.int p3), .val (.int (p0 &&& (3 : Int32))), .val .null, .val (.ref b102), .val (.int (p1 &&& (3 : Int32))), .unset, .unset, .unset] [(.int (1 : Int32)), (.int (p1 &&& (3 : Int32)))])) (fun _ k => XS.ifYes X104.here hx rfl (pc0 := 79) (pc' := 88) rfl (hb hby at_79) rfl ((if0 _ _).trans (feq hc105).2) (by decide) (by decide) (XS.iload X104.here hx rfl (hb hby at_88) rfl (XS.iconst X104.here hx rfl (hb hby at_90) k))) ?_
      by_cases hc113 : (p1 &&& (3 : Int32)) = (1 : Int32)
      · refine own_st (S' := T104.setTop (mkF m 94 #[.val (.int p0), .val (.int p1), .val (.int p2), .val (.int p3), .val (.int (p0 &&& (3 : Int32))), .val .null, .val (.ref b102), .val (.int (p1 &&& (3 : Int32))), .unset, .unset, .unset] [])) (fun _ k => XS.icmpNo X104.here hx rfl (hb hby at_91) rfl (teq hc113).2 k) ?_
        obtain ⟨u114, T114, h114, k114, X114, e114, E114, sn114, sk114, hz114, ho114, st114⟩ := ldcS (s := s) (vm0 := s.vm) X104 hx hZ hown (hw _ own_w78) (fun d hd => hw d ((by decide +kernel : ∀ d ∈ Bundle.stringAtoms, d ∈ tables_1) d hd)) e104 ((State.WarmedH.refl s).since 0) (Nat.zero_le _) (g := (mkF m 94 #[.val (.int p0), .val (.int p1), .val (.int p2), .val (.int p3), .val (.int (p0 &&& (3 : Int32))), .val .null, .val (.ref b102), .val (.int (p1 &&& (3 : Int32))), .unset, .unset, .unset] [])) rfl (hb hby at_94) (n := 0) (by decide) (by decide) (by decide) (by decide)
        refine own_st (S' := T114.setTop (mkF m 96 #[.val (.int p0), .val (.int p1), .val (.int p2), .val (.int p3), .val (.int (p0 &&& (3 : Int32))), .val .null, .val (.ref b102), .val (.int (p1 &&& (3 : Int32))), .unset, .unset, .unset] [(.ref u114)])) st114 ?_
        refine own_st (S' := T114.setTop (mkF m 136 #[.val (.int p0), .val (.int p1), .val (.int p2), .val (.int p3), .val (.int (p0 &&& (3 : Int32))), .val .null, .val (.ref b102), .val (.int (p1 &&& (3 : Int32))), .val (.ref u114), .unset, .unset] [(.ref u114), .null])) (fun _ k => XS.astore X114.here hx rfl (hb hby at_96) rfl rfl (l' := #[.val (.int p0), .val (.int p1), .val (.int p2), .val (.int p3), .val (.int (p0 &&& (3 : Int32))), .val .null, .val (.ref b102), .val (.int (p1 &&& (3 : Int32))), .val (.ref u114), .unset, .unset]) rfl (XS.goto X114.here hx rfl (pc0 := 98) (pc' := 132) rfl (hb hby at_98) (by decide) (by decide) (XS.aload X114.here hx rfl (hb hby at_132) rfl rfl (XS.aload X114.here hx rfl (hb hby at_134) rfl rfl k)))) ?_
        have XE115 : Ext h0 h114 := (own_xt (own_xw (own_xw E102 W103 (Nat.le_of_eq g102.symm)) W104 (Nat.le_of_eq g102.symm)) E114)
        have XO116 : Old Z n0 h114 := (XO.ext XE115)
        obtain ⟨_, _, ⟨T117, L117, k117, n117⟩, -, X117, ⟨Lc117, hQ117, l117, y117, z117⟩, st117⟩ := Jvm.LawKit.callS X114 hx (y := (⟨"com/example/task_callbacks/taskcallbacks/event/Listing", "of", "(Lcom/example/task_callbacks/taskcallbacks/event/EventStatus;Ljava/lang/String;)Lcom/example/task_callbacks/taskcallbacks/event/Listing;"⟩ : MethodName)) ho114 (mvT hz114 (hw _ own_w30)) (mvT hz114 (hw _ own_w31)) (mvT hz114 (hw _ own_w32)) (mvT hz114 (hw _ own_w33)) (by decide) (backOf (W := 0) (own_rm_of01 l Z a0 hw G1 S1 P1 lA lT lS lB eP eD eF tN tT tP tQ tS tB B [] u114 h114 n0 (Nat.le_trans Z0 (Nat.le_trans (Nat.le_trans (Nat.le_trans E102.1 (Nat.le_of_eq W103.size.symm)) (Nat.le_of_eq W104.size.symm)) E114.1)) XO116 ) hz114 (hw _ own_w33) (hw _ own_w32) (by decide) (by decide)) (g := (mkF m 136 #[.val (.int p0), .val (.int p1), .val (.int p2), .val (.int p3), .val (.int (p0 &&& (3 : Int32))), .val .null, .val (.ref b102), .val (.int (p1 &&& (3 : Int32))), .val (.ref u114), .unset, .unset] [(.ref u114), .null])) rfl (by rw [hml]; rfl) (argsL := [.null, (.ref u114)]) (rest := []) (lenOf own_pd3 rfl) rfl (by show 2 * 0 + _ ≤ _; exact Nat.le_of_eq rfl) (hb hby at_136) (fun _ _ => ⟨rfl, e114, (by decide : 3 + 0 ≤ _), (by decide : 6 + 0 ≤ _)⟩)
        dsimp only [Pt.U, Pt.locs, Pt.cells, Pt.slots] at X117 l117 y117 z117 st117 hQ117
        subst l117 y117 z117
        obtain ⟨rfl, M117, e117⟩ := hQ117
        have N117 := Fr.app N104 M117
        refine own_st (S' := T117.setTop (mkF m 139 #[.val (.int p0), .val (.int p1), .val (.int p2), .val (.int p3), .val (.int (p0 &&& (3 : Int32))), .val .null, .val (.ref b102), .val (.int (p1 &&& (3 : Int32))), .val (.ref u114), .unset, .unset] [(.ref lT)])) st117 ?_
        refine own_st (S' := T117.setTop (mkF m 150 #[.val (.int p0), .val (.int p1), .val (.int p2), .val (.int p3), .val (.int (p0 &&& (3 : Int32))), .val .null, .val (.ref b102), .val (.int (p1 &&& (3 : Int32))), .val (.ref u114), .val (.ref lT), .unset] [.null])) (fun _ k => XS.astore X117.here hx rfl (hb hby at_139) rfl rfl (l' := #[.val (.int p0), .val (.int p1), .val (.int p2), .val (.int p3), .val (.int (p0 &&& (3 : Int32))), .val .null, .val (.ref b102), .val (.int (p1 &&& (3 : Int32))), .val (.ref u114), .val (.ref lT), .unset]) rfl (XS.aload X117.here hx rfl (hb hby at_141) rfl rfl (XS.ifnonnullYes X117.here hx rfl (pc0 := 143) (pc' := 148) rfl (hb hby at_143) rfl (by decide) (by decide) (XS.aload X117.here hx rfl (hb hby at_148) rfl rfl k)))) ?_
        refine own_st (S' := T117.setTop (mkF m 164 #[.val (.int p0), .val (.int p1), .val (.int p2), .val (.int p3), .val (.int (p0 &&& (3 : Int32))), .val .null, .val (.ref b102), .val (.int (p1 &&& (3 : Int32))), .val (.ref u114), .val (.ref lT), .unset] [])) (fun _ k => XS.ifnonnullNo X117.here hx rfl (hb hby at_150) rfl (XS.aload X117.here hx rfl (hb hby at_153) rfl rfl (XS.ifnonnullYes X117.here hx rfl (pc0 := 155) (pc' := 164) rfl (hb hby at_155) rfl (by decide) (by decide) k))) ?_
        have S118 : Sta Z h114 "com/example/task_callbacks/taskcallbacks/store/Table" "EVENTS_BY_TYPE" "Lcom/example/task_callbacks/taskcallbacks/store/Table;" (.ref tT) := (B8.ext XO116.2)
        obtain ⟨T119, X119, e119, st119⟩ := getS2 X117 hx hz114 ho114 (host := "") (Or.inl (hw _ own_w36)) Via.refl e117 S118 (g := (mkF m 164 #[.val (.int p0), .val (.int p1), .val (.int p2), .val (.int p3), .val (.int (p0 &&& (3 : Int32))), .val .null, .val (.ref b102), .val (.int (p1 &&& (3 : Int32))), .val (.ref u114), .val (.ref lT), .unset] [])) rfl (hb hby at_164)
        refine own_st (S' := T119.setTop (mkF m 167 #[.val (.int p0), .val (.int p1), .val (.int p2), .val (.int p3), .val (.int (p0 &&& (3 : Int32))), .val .null, .val (.ref b102), .val (.int (p1 &&& (3 : Int32))), .val (.ref u114), .val (.ref lT), .unset] [(.ref tT)])) st119 ?_
        refine own_st (S' := T119.setTop (mkF m 219 #[.val (.int p0), .val (.int p1), .val (.int p2), .val (.int p3), .val (.int (p0 &&& (3 : Int32))), .val .null, .val (.ref b102), .val (.int (p1 &&& (3 : Int32))), .val (.ref u114), .val (.ref lT), .val (.ref tT)] [.null, (.ref lT)])) (fun _ k => XS.astore X119.here hx rfl (hb hby at_167) rfl rfl (l' := #[.val (.int p0), .val (.int p1), .val (.int p2), .val (.int p3), .val (.int (p0 &&& (3 : Int32))), .val .null, .val (.ref b102), .val (.int (p1 &&& (3 : Int32))), .val (.ref u114), .val (.ref lT), .val (.ref tT)]) rfl (XS.goto X119.here hx rfl (pc0 := 169) (pc' := 215) rfl (hb hby at_169) (by decide) (by decide) (XS.aload X119.here hx rfl (hb hby at_215) rfl rfl (XS.aload X119.here hx rfl (hb hby at_217) rfl rfl k)))) ?_
        have A121 : Exa Z h114 lT "com/example/task_callbacks/taskcallbacks/event/Listing" := (B14.ext XO116.2)
        obtain ⟨cq120, kq120, q120a, q120b, q120c⟩ := isOf hz114 e119 A121
        obtain ⟨_, _, ⟨T120, L120, k120, n120⟩, -, X120, ⟨Lc120, hQ120, l120, y120, z120⟩, st120⟩ := X119.virtualBack hx (y := (⟨"com/example/task_callbacks/taskcallbacks/event/Listing", "table", "(Lcom/example/task_callbacks/taskcallbacks/event/EventStatus;)Lcom/example/task_callbacks/taskcallbacks/store/Table;"⟩ : MethodName)) (z := (⟨"com/example/task_callbacks/taskcallbacks/event/Listing", "table", "(Lcom/example/task_callbacks/taskcallbacks/event/EventStatus;)Lcom/example/task_callbacks/taskcallbacks/store/Table;"⟩ : MethodName)) ho114 (mvT hz114 (hw _ own_w39)) (mvT hz114 (hw _ own_w40)) (notFace_of_selects (args := #[]) (mvT hz114 (hw _ own_w42))) (mvT hz114 (hw _ own_w42)) (mvT hz114 (hw _ own_w41)) (by decide) (backOf (W := 0) (own_rm_ta_null l Z a0 hw G1 S1 P1 lA lT lS lB eP eD eF tN tT tP tQ tS tB B [] lT tT h114 n0 (Nat.le_trans Z0 (Nat.le_trans (Nat.le_trans (Nat.le_trans E102.1 (Nat.le_of_eq W103.size.symm)) (Nat.le_of_eq W104.size.symm)) E114.1)) XO116 B19) hz114 (hw _ own_w43) (hw _ own_w32) (by decide) (by decide)) q120a q120c (g := (mkF m 219 #[.val (.int p0), .val (.int p1), .val (.int p2), .val (.int p3), .val (.int (p0 &&& (3 : Int32))), .val .null, .val (.ref b102), .val (.int (p1 &&& (3 : Int32))), .val (.ref u114), .val (.ref lT), .val (.ref tT)] [.null, (.ref lT)])) rfl (by rw [hml]; rfl) (Steps.refl _) (argsL := [.null]) (rest := []) (lenOf own_pd4 rfl) rfl (by show 2 * 0 + _ ≤ _; exact Nat.le_of_eq rfl) (hb hby at_219) (fun _ _ => ⟨rfl, e119, (by decide : 3 + 0 ≤ _), (by decide : 6 + 0 ≤ _)⟩)
        dsimp only [Pt.U, Pt.locs, Pt.cells, Pt.slots] at X120 l120 y120 z120 st120 hQ120
        subst l120 y120 z120
        obtain ⟨rfl, M120, e120⟩ := hQ120
        have N120 := Fr.app N117 M120
        refine own_tr (S' := T120.setTop (mkF m 222 #[.val (.int p0), .val (.int p1), .val (.int p2), .val (.int p3), .val (.int (p0 &&& (3 : Int32))), .val .null, .val (.ref b102), .val (.int (p1 &&& (3 : Int32))), .val (.ref u114), .val (.ref lT), .val (.ref tT)] [(.ref tT)])) st120 ?_
        refine own_st (S' := T120.setTop (mkF m 224 #[.val (.int p0), .val (.int p1), .val (.int p2), .val (.int p3), .val (.int (p0 &&& (3 : Int32))), .val .null, .val (.ref b102), .val (.int (p1 &&& (3 : Int32))), .val (.ref u114), .val (.ref lT), .val (.ref tT)] [(.ref tT), (.ref tT)])) (fun _ k => XS.aload X120.here hx rfl (hb hby at_222) rfl rfl k) ?_
        refine own_st (S' := T120.setTop (mkF m 227 #[.val (.int p0), .val (.int p1), .val (.int p2), .val (.int p3), .val (.int (p0 &&& (3 : Int32))), .val .null, .val (.ref b102), .val (.int (p1 &&& (3 : Int32))), .val (.ref u114), .val (.ref lT), .val (.ref tT)] [])) (fun _ k => Jvm.RoadKit.acmp (g := (mkF m 224 #[.val (.int p0), .val (.int p1), .val (.int p2), .val (.int p3), .val (.int (p0 &&& (3 : Int32))), .val .null, .val (.ref b102), .val (.int (p1 &&& (3 : Int32))), .val (.ref u114), .val (.ref lT), .val (.ref tT)] [(.ref tT), (.ref tT)])) X120 hx rfl rfl rfl (pc0 := 224) (pc' := 227) (same := true) rfl (hb hby at_224) rfl (decide_eq_true rfl) (by decide) (by decide) k) ?_
        refine own_st (S' := T120.setTop (mkF m 232 #[.val (.int p0), .val (.int p1), .val (.int p2), .val (.int p3), .val (.int (p0 &&& (3 : Int32))), .val .null, .val (.ref b102), .val (.int (p1 &&& (3 : Int32))), .val (.ref u114), .val (.ref lT), .val (.ref tT)] [(.int (1 : Int32))])) (fun _ k => XS.iconst X120.here hx rfl (hb hby at_227) (XS.goto X120.here hx rfl (pc0 := 228) (pc' := 232) rfl (hb hby at_228) (by decide) (by decide) k)) ?_
        refine own_retW X120 hx sn114 (by rw [e120]; exact Nat.le_trans sk114 (Nat.le_refl _)) Bd.returns hlk rfl (Or.inl ⟨rfl, (by simp), _, rfl⟩) (hb hby at_232) (by decide) (by decide) ?_
        rw [e120]
        exact ⟨rfl, N120⟩
      · refine own_st (S' := T104.setTop (mkF m 104 #[.val (.int p0), .val (.int p1), .val (.int p2), .val (.int p3), .val (.int (p0 &&& (3 : Int32))), .val .null, .val (.ref b102), .val (.int (p1 &&& (3 : Int32))), .unset, .unset, .unset] [(.int (2 : Int32)), (.int (p1 &&& (3 : Int32)))])) (fun _ k => XS.icmpYes X104.here hx rfl (pc0 := 91) (pc' := 101) rfl (hb hby at_91) rfl (feq hc113).2 (by decide) (by decide) (XS.iload X104.here hx rfl (hb hby at_101) rfl (XS.iconst X104.here hx rfl (hb hby at_103) k))) ?_
        by_cases hc122 : (p1 &&& (3 : Int32)) = (2 : Int32)
        · refine own_st (S' := T104.setTop (mkF m 112 #[.val (.int p0), .val (.int p1), .val (.int p2), .val (.int p3), .val (.int (p0 &&& (3 : Int32))), .val .null, .val (.ref b102), .val (.int (p1 &&& (3 : Int32))), .unset, .unset, .unset] [(.int (p2 &&& (255 : Int32)))])) (fun _ k => XS.icmpNo X104.here hx rfl (hb hby at_104) rfl (teq hc122).2 (XS.iloadN X104.here hx rfl (hb hby at_107) rfl (XS.sipush X104.here hx rfl (hb hby at_108) (XS.iand X104.here hx rfl (hb hby at_111) rfl k)))) ?_
          refine own_st (S' := T104.setTop (mkF m 113 #[.val (.int p0), .val (.int p1), .val (.int p2), .val (.int p3), .val (.int (p0 &&& (3 : Int32))), .val .null, .val (.ref b102), .val (.int (p1 &&& (3 : Int32))), .unset, .unset, .unset] [(.int ((p2 &&& (255 : Int32)).toUInt32.toUInt16.toUInt32.toInt32))])) (fun _ k => XS.i2c X104.here hx rfl (hb hby at_112) rfl k) ?_
          have XE123 : Ext h0 h104 := (own_xw (own_xw E102 W103 (Nat.le_of_eq g102.symm)) W104 (Nat.le_of_eq g102.symm))
          have XO124 : Old Z n0 h104 := (XO.ext XE123)
          obtain ⟨_, _, ⟨T125, L125, k125, n125⟩, -, X125, ⟨Lc125, hQ125, l125, y125, z125⟩, st125⟩ := Jvm.LawKit.callS X104 hx (y := (⟨"java/lang/String", "valueOf", "(C)Ljava/lang/String;"⟩ : MethodName)) hown (mvT hZ (hw _ own_w58)) (mvT hZ (hw _ own_w59)) (mvT hZ (hw _ own_w3)) (mvT hZ (hw _ own_w60)) (by decide) (backOf (W := 0) (own_rm_vof l Z a0 hw G1 S1 P1 lA lT lS lB eP eD eF tN tT tP tQ tS tB B [] ((p2 &&& (255 : Int32)).toUInt32.toUInt16.toUInt32.toInt32) h104 n0 (Nat.le_trans Z0 (Nat.le_trans (Nat.le_trans E102.1 (Nat.le_of_eq W103.size.symm)) (Nat.le_of_eq W104.size.symm))) XO124 (own_c0 p2).1 (own_c0 p2).2) hZ (hw _ own_w60) (hw _ own_w3) (by decide) (by decide)) (g := (mkF m 113 #[.val (.int p0), .val (.int p1), .val (.int p2), .val (.int p3), .val (.int (p0 &&& (3 : Int32))), .val .null, .val (.ref b102), .val (.int (p1 &&& (3 : Int32))), .unset, .unset, .unset] [(.int ((p2 &&& (255 : Int32)).toUInt32.toUInt16.toUInt32.toInt32))])) rfl (by rw [hml]; rfl) (argsL := [(.int ((p2 &&& (255 : Int32)).toUInt32.toUInt16.toUInt32.toInt32))]) (rest := []) (lenOf own_pd5 rfl) rfl (by show 2 * 0 + _ ≤ _; exact Nat.le_of_eq rfl) (hb hby at_113) (fun _ _ => ⟨rfl, e104, (by decide : 1 + 2 ≤ _), (by decide : 2 + 5 ≤ _)⟩)
          dsimp only [Pt.U, Pt.locs, Pt.cells, Pt.slots] at X125 l125 y125 z125 st125 hQ125
          subst l125 y125 z125
          obtain ⟨r125, rfl, M125, E125, g125, Y125⟩ := hQ125
          have N125 := Fr.app N104 M125
          obtain ⟨h125, e125⟩ : ∃ z, T125.heap = z := ⟨_, rfl⟩
          rw [e125] at E125 Y125
          refine own_st (S' := T125.setTop (mkF m 116 #[.val (.int p0), .val (.int p1), .val (.int p2), .val (.int p3), .val (.int (p0 &&& (3 : Int32))), .val .null, .val (.ref b102), .val (.int (p1 &&& (3 : Int32))), .unset, .unset, .unset] [(.ref r125)])) st125 ?_
          refine own_st (S' := T125.setTop (mkF m 136 #[.val (.int p0), .val (.int p1), .val (.int p2), .val (.int p3), .val (.int (p0 &&& (3 : Int32))), .val .null, .val (.ref b102), .val (.int (p1 &&& (3 : Int32))), .val (.ref r125), .unset, .unset] [(.ref r125), .null])) (fun _ k => XS.astore X125.here hx rfl (hb hby at_116) rfl rfl (l' := #[.val (.int p0), .val (.int p1), .val (.int p2), .val (.int p3), .val (.int (p0 &&& (3 : Int32))), .val .null, .val (.ref b102), .val (.int (p1 &&& (3 : Int32))), .val (.ref r125), .unset, .unset]) rfl (XS.goto X125.here hx rfl (pc0 := 118) (pc' := 132) rfl (hb hby at_118) (by decide) (by decide) (XS.aload X125.here hx rfl (hb hby at_132) rfl rfl (XS.aload X125.here hx rfl (hb hby at_134) rfl rfl k)))) ?_
          have XO126 : Old Z n0 h125 := (XO124.ext E125)
          obtain ⟨_, _, ⟨T127, L127, k127, n127⟩, -, X127, ⟨Lc127, hQ127, l127, y127, z127⟩, st127⟩ := Jvm.LawKit.callS X125 hx (y := (⟨"com/example/task_callbacks/taskcallbacks/event/Listing", "of", "(Lcom/example/task_callbacks/taskcallbacks/event/EventStatus;Ljava/lang/String;)Lcom/example/task_callbacks/taskcallbacks/event/Listing;"⟩ : MethodName)) hown (mvT hZ (hw _ own_w30)) (mvT hZ (hw _ own_w31)) (mvT hZ (hw _ own_w32)) (mvT hZ (hw _ own_w33)) (by decide) (backOf (W := 0) (own_rm_of01 l Z a0 hw G1 S1 P1 lA lT lS lB eP eD eF tN tT tP tQ tS tB B [] r125 h125 n0 (Nat.le_trans Z0 (Nat.le_trans (Nat.le_trans (Nat.le_trans E102.1 (Nat.le_of_eq W103.size.symm)) (Nat.le_of_eq W104.size.symm)) E125.1)) XO126 ) hZ (hw _ own_w33) (hw _ own_w32) (by decide) (by decide)) (g := (mkF m 136 #[.val (.int p0), .val (.int p1), .val (.int p2), .val (.int p3), .val (.int (p0 &&& (3 : Int32))), .val .null, .val (.ref b102), .val (.int (p1 &&& (3 : Int32))), .val (.ref r125), .unset, .unset] [(.ref r125), .null])) rfl (by rw [hml]; rfl) (argsL := [.null, (.ref r125)]) (rest := []) (lenOf own_pd3 rfl) rfl (by show 2 * 0 + _ ≤ _; exact Nat.le_of_eq rfl) (hb hby at_136) (fun _ _ => ⟨rfl, e125, (by decide : 3 + 0 ≤ _), (by decide : 7 + 0 ≤ _)⟩)
          dsimp only [Pt.U, Pt.locs, Pt.cells, Pt.slots] at X127 l127 y127 z127 st127 hQ127
          subst l127 y127 z127
          obtain ⟨rfl, M127, e127⟩ := hQ127
          have N127 := Fr.app N125 M127
          refine own_st (S' := T127.setTop (mkF m 139 #[.val (.int p0), .val (.int p1), .val (.int p2), .val (.int p3), .val (.int (p0 &&& (3 : Int32))), .val .null, .val (.ref b102), .val (.int (p1 &&& (3 : Int32))), .val (.ref r125), .unset, .unset] [(.ref lT)])) st127 ?_
          refine own_st (S' := T127.setTop (mkF m 150 #[.val (.int p0), .val (.int p1), .val (.int p2), .val (.int p3), .val (.int (p0 &&& (3 : Int32))), .val .null, .val (.ref b102), .val (.int (p1 &&& (3 : Int32))), .val (.ref r125), .val (.ref lT), .unset] [.null])) (fun _ k => XS.astore X127.here hx rfl (hb hby at_139) rfl rfl (l' := #[.val (.int p0), .val (.int p1), .val (.int p2), .val (.int p3), .val (.int (p0 &&& (3 : Int32))), .val .null, .val (.ref b102), .val (.int (p1 &&& (3 : Int32))), .val (.ref r125), .val (.ref lT), .unset]) rfl (XS.aload X127.here hx rfl (hb hby at_141) rfl rfl (XS.ifnonnullYes X127.here hx rfl (pc0 := 143) (pc' := 148) rfl (hb hby at_143) rfl (by decide) (by decide) (XS.aload X127.here hx rfl (hb hby at_148) rfl rfl k)))) ?_
          refine own_st (S' := T127.setTop (mkF m 164 #[.val (.int p0), .val (.int p1), .val (.int p2), .val (.int p3), .val (.int (p0 &&& (3 : Int32))), .val .null, .val (.ref b102), .val (.int (p1 &&& (3 : Int32))), .val (.ref r125), .val (.ref lT), .unset] [])) (fun _ k => XS.ifnonnullNo X127.here hx rfl (hb hby at_150) rfl (XS.aload X127.here hx rfl (hb hby at_153) rfl rfl (XS.ifnonnullYes X127.here hx rfl (pc0 := 155) (pc' := 164) rfl (hb hby at_155) rfl (by decide) (by decide) k))) ?_
          have S128 : Sta Z h125 "com/example/task_callbacks/taskcallbacks/store/Table" "EVENTS_BY_TYPE" "Lcom/example/task_callbacks/taskcallbacks/store/Table;" (.ref tT) := (B8.ext XO126.2)
          obtain ⟨T129, X129, e129, st129⟩ := getS2 X127 hx hZ hown (host := "") (Or.inl (hw _ own_w36)) Via.refl e127 S128 (g := (mkF m 164 #[.val (.int p0), .val (.int p1), .val (.int p2), .val (.int p3), .val (.int (p0 &&& (3 : Int32))), .val .null, .val (.ref b102), .val (.int (p1 &&& (3 : Int32))), .val (.ref r125), .val (.ref lT), .unset] [])) rfl (hb hby at_164)
          refine own_st (S' := T129.setTop (mkF m 167 #[.val (.int p0), .val (.int p1), .val (.int p2), .val (.int p3), .val (.int (p0 &&& (3 : Int32))), .val .null, .val (.ref b102), .val (.int (p1 &&& (3 : Int32))), .val (.ref r125), .val (.ref lT), .unset] [(.ref tT)])) st129 ?_
          refine own_st (S' := T129.setTop (mkF m 219 #[.val (.int p0), .val (.int p1), .val (.int p2), .val (.int p3), .val (.int (p0 &&& (3 : Int32))), .val .null, .val (.ref b102), .val (.int (p1 &&& (3 : Int32))), .val (.ref r125), .val (.ref lT), .val (.ref tT)] [.null, (.ref lT)])) (fun _ k => XS.astore X129.here hx rfl (hb hby at_167) rfl rfl (l' := #[.val (.int p0), .val (.int p1), .val (.int p2), .val (.int p3), .val (.int (p0 &&& (3 : Int32))), .val .null, .val (.ref b102), .val (.int (p1 &&& (3 : Int32))), .val (.ref r125), .val (.ref lT), .val (.ref tT)]) rfl (XS.goto X129.here hx rfl (pc0 := 169) (pc' := 215) rfl (hb hby at_169) (by decide) (by decide) (XS.aload X129.here hx rfl (hb hby at_215) rfl rfl (XS.aload X129.here hx rfl (hb hby at_217) rfl rfl k)))) ?_
          have A131 : Exa Z h125 lT "com/example/task_callbacks/taskcallbacks/event/Listing" := (B14.ext XO126.2)
          obtain ⟨cq130, kq130, q130a, q130b, q130c⟩ := isOf hZ e129 A131
          obtain ⟨_, _, ⟨T130, L130, k130, n130⟩, -, X130, ⟨Lc130, hQ130, l130, y130, z130⟩, st130⟩ := X129.virtualBack hx (y := (⟨"com/example/task_callbacks/taskcallbacks/event/Listing", "table", "(Lcom/example/task_callbacks/taskcallbacks/event/EventStatus;)Lcom/example/task_callbacks/taskcallbacks/store/Table;"⟩ : MethodName)) (z := (⟨"com/example/task_callbacks/taskcallbacks/event/Listing", "table", "(Lcom/example/task_callbacks/taskcallbacks/event/EventStatus;)Lcom/example/task_callbacks/taskcallbacks/store/Table;"⟩ : MethodName)) hown (mvT hZ (hw _ own_w39)) (mvT hZ (hw _ own_w40)) (notFace_of_selects (args := #[]) (mvT hZ (hw _ own_w42))) (mvT hZ (hw _ own_w42)) (mvT hZ (hw _ own_w41)) (by decide) (backOf (W := 0) (own_rm_ta_null l Z a0 hw G1 S1 P1 lA lT lS lB eP eD eF tN tT tP tQ tS tB B [] lT tT h125 n0 (Nat.le_trans Z0 (Nat.le_trans (Nat.le_trans (Nat.le_trans E102.1 (Nat.le_of_eq W103.size.symm)) (Nat.le_of_eq W104.size.symm)) E125.1)) XO126 B19) hZ (hw _ own_w43) (hw _ own_w32) (by decide) (by decide)) q130a q130c (g := (mkF m 219 #[.val (.int p0), .val (.int p1), .val (.int p2), .val (.int p3), .val (.int (p0 &&& (3 : Int32))), .val .null, .val (.ref b102), .val (.int (p1 &&& (3 : Int32))), .val (.ref r125), .val (.ref lT), .val (.ref tT)] [.null, (.ref lT)])) rfl (by rw [hml]; rfl) (Steps.refl _) (argsL := [.null]) (rest := []) (lenOf own_pd4 rfl) rfl (by show 2 * 0 + _ ≤ _; exact Nat.le_of_eq rfl) (hb hby at_219) (fun _ _ => ⟨rfl, e129, (by decide : 3 + 0 ≤ _), (by decide : 7 + 0 ≤ _)⟩)
          dsimp only [Pt.U, Pt.locs, Pt.cells, Pt.slots] at X130 l130 y130 z130 st130 hQ130
          subst l130 y130 z130
          obtain ⟨rfl, M130, e130⟩ := hQ130
          have N130 := Fr.app N127 M130
          refine own_tr (S' := T130.setTop (mkF m 222 #[.val (.int p0), .val (.int p1), .val (.int p2), .val (.int p3), .val (.int (p0 &&& (3 : Int32))), .val .null, .val (.ref b102), .val (.int (p1 &&& (3 : Int32))), .val (.ref r125), .val (.ref lT), .val (.ref tT)] [(.ref tT)])) st130 ?_
          refine own_st (S' := T130.setTop (mkF m 224 #[.val (.int p0), .val (.int p1), .val (.int p2), .val (.int p3), .val (.int (p0 &&& (3 : Int32))), .val .null, .val (.ref b102), .val (.int (p1 &&& (3 : Int32))), .val (.ref r125), .val (.ref lT), .val (.ref tT)] [(.ref tT), (.ref tT)])) (fun _ k => XS.aload X130.here hx rfl (hb hby at_222) rfl rfl k) ?_
          refine own_st (S' := T130.setTop (mkF m 227 #[.val (.int p0), .val (.int p1), .val (.int p2), .val (.int p3), .val (.int (p0 &&& (3 : Int32))), .val .null, .val (.ref b102), .val (.int (p1 &&& (3 : Int32))), .val (.ref r125), .val (.ref lT), .val (.ref tT)] [])) (fun _ k => Jvm.RoadKit.acmp (g := (mkF m 224 #[.val (.int p0), .val (.int p1), .val (.int p2), .val (.int p3), .val (.int (p0 &&& (3 : Int32))), .val .null, .val (.ref b102), .val (.int (p1 &&& (3 : Int32))), .val (.ref r125), .val (.ref lT), .val (.ref tT)] [(.ref tT), (.ref tT)])) X130 hx rfl rfl rfl (pc0 := 224) (pc' := 227) (same := true) rfl (hb hby at_224) rfl (decide_eq_true rfl) (by decide) (by decide) k) ?_
          refine own_st (S' := T130.setTop (mkF m 232 #[.val (.int p0), .val (.int p1), .val (.int p2), .val (.int p3), .val (.int (p0 &&& (3 : Int32))), .val .null, .val (.ref b102), .val (.int (p1 &&& (3 : Int32))), .val (.ref r125), .val (.ref lT), .val (.ref tT)] [(.int (1 : Int32))])) (fun _ k => XS.iconst X130.here hx rfl (hb hby at_227) (XS.goto X130.here hx rfl (pc0 := 228) (pc' := 232) rfl (hb hby at_228) (by decide) (by decide) k)) ?_
          refine own_retNW X130 hx Bd.returns hlk rfl (Or.inl ⟨rfl, (by simp), _, rfl⟩) (hb hby at_232) (by decide) (by decide) ?_
          rw [e130]
          exact ⟨rfl, N130⟩
        · refine own_st (S' := T104.setTop (mkF m 121 #[.val (.int p0), .val (.int p1), .val (.int p2), .val (.int p3), .val (.int (p0 &&& (3 : Int32))), .val .null, .val (.ref b102), .val (.int (p1 &&& (3 : Int32))), .unset, .unset, .unset] [])) (fun _ k => XS.icmpYes X104.here hx rfl (pc0 := 104) (pc' := 121) rfl (hb hby at_104) rfl (feq hc122).2 (by decide) (by decide) k) ?_
          obtain ⟨T132, h132, X132, e132, E132, A132, D132, -, st132⟩ := newO X104 hx hZ hown (hw _ own_w1) (hw _ own_w2) (hw _ own_w3) e104 (g := (mkF m 121 #[.val (.int p0), .val (.int p1), .val (.int p2), .val (.int p3), .val (.int (p0 &&& (3 : Int32))), .val .null, .val (.ref b102), .val (.int (p1 &&& (3 : Int32))), .unset, .unset, .unset] [])) rfl (hb hby at_121) (by decide) (by decide)
          obtain ⟨b132, g132⟩ : ∃ z, z = h104.size := ⟨_, rfl⟩
          rw [← g132] at A132 D132 st132
          refine own_st (S' := T132.setTop (mkF m 124 #[.val (.int p0), .val (.int p1), .val (.int p2), .val (.int p3), .val (.int (p0 &&& (3 : Int32))), .val .null, .val (.ref b102), .val (.int (p1 &&& (3 : Int32))), .unset, .unset, .unset] [(.ref b132)])) st132 ?_
          refine own_st (S' := T132.setTop (mkF m 127 #[.val (.int p0), .val (.int p1), .val (.int p2), .val (.int p3), .val (.int (p0 &&& (3 : Int32))), .val .null, .val (.ref b102), .val (.int (p1 &&& (3 : Int32))), .unset, .unset, .unset] [(.ref b102), (.ref b132), (.ref b132)])) (fun _ k => XS.dup X132.here hx rfl (hb hby at_124) rfl rfl (XS.aload X132.here hx rfl (hb hby at_125) rfl rfl k)) ?_
          have V133 : Arv Z h132 b102 k102 .char (2 : Int32) [(.int (nar .char ((p2 &&& (255 : Int32)).toUInt32.toUInt16.toUInt32.toInt32))), (.int (nar .char ((p3 &&& (255 : Int32)).toUInt32.toUInt16.toUInt32.toInt32)))] (.int (0 : Int32)) := (V104.ext E132)
          have XE134 : Ext h0 h132 := (own_xt (own_xw (own_xw E102 W103 (Nat.le_of_eq g102.symm)) W104 (Nat.le_of_eq g102.symm)) E132)
          have XO135 : Old Z n0 h132 := (XO.ext XE134)
          have S136 : Sta Z h132 "java/lang/String" "COMPACT_STRINGS" "Z" (.int G1) := (S1.ext XO135.2)
          obtain ⟨_, _, ⟨T137, L137, k137, n137⟩, -, X137, ⟨Lc137, hQ137, l137, y137, z137⟩, st137⟩ := X132.specialBack hx (y := (⟨"java/lang/String", "<init>", "([C)V"⟩ : MethodName)) rfl hown (mvT hZ (hw _ own_w4)) (mvT hZ (hw _ own_w5)) (mvT hZ (hw _ own_w6)) (by decide) (own_newB (W := 1) hZ hw (cs := [nar .char ((p2 &&& (255 : Int32)).toUInt32.toUInt16.toUInt32.toInt32), nar .char ((p3 &&& (255 : Int32)).toUInt32.toUInt16.toUInt32.toInt32)]) (n := 2) (n0 := n0) (Nat.le_trans Z0 (Nat.le_trans (Nat.le_trans (Nat.le_trans E102.1 (Nat.le_of_eq W103.size.symm)) (Nat.le_of_eq W104.size.symm)) (Nat.le_of_eq g132.symm))) (Nat.le_trans Z0 (Nat.le_trans (Nat.le_trans (Nat.le_trans E102.1 (Nat.le_of_eq W103.size.symm)) (Nat.le_of_eq W104.size.symm)) E132.1)) A132 (D132 (Or.inr (hw _ own_w29)) (ty := (.array .byte)) (by decide)) (D132 (Or.inr (hw _ own_w27)) (ty := .byte) (by decide)) V133 S136 P1 rfl rfl (by decide) (by decide) (own_hp2 p2 p3) (by decide) (by decide)) (g := (mkF m 127 #[.val (.int p0), .val (.int p1), .val (.int p2), .val (.int p3), .val (.int (p0 &&& (3 : Int32))), .val .null, .val (.ref b102), .val (.int (p1 &&& (3 : Int32))), .unset, .unset, .unset] [(.ref b102), (.ref b132), (.ref b132)])) rfl (by rw [hml]; rfl) (Steps.refl _) (a := b132) (argsL := [(.ref b102)]) (rest := [(.ref b132)]) (lenOf own_pd6 rfl) rfl (by show 2 * 0 + _ ≤ _; exact Nat.le_of_eq rfl) (hb hby at_127) (fun _ _ => ⟨rfl, e132, (by decide : 2 + 1 ≤ _), (by decide : 6 + 2 ≤ _)⟩)
          dsimp only [Pt.U, Pt.locs, Pt.cells, Pt.slots] at X137 l137 y137 z137 st137 hQ137
          subst l137 y137 z137
          obtain ⟨rfl, M137, K137, Y137⟩ := hQ137
          have N137 := Fr.app N104 M137
          obtain ⟨h137, e137⟩ : ∃ z, T137.heap = z := ⟨_, rfl⟩
          rw [e137] at K137 Y137
          refine own_tr (S' := T137.setTop (mkF m 130 #[.val (.int p0), .val (.int p1), .val (.int p2), .val (.int p3), .val (.int (p0 &&& (3 : Int32))), .val .null, .val (.ref b102), .val (.int (p1 &&& (3 : Int32))), .unset, .unset, .unset] [(.ref b132)])) st137 ?_
          refine own_st (S' := T137.setTop (mkF m 136 #[.val (.int p0), .val (.int p1), .val (.int p2), .val (.int p3), .val (.int (p0 &&& (3 : Int32))), .val .null, .val (.ref b102), .val (.int (p1 &&& (3 : Int32))), .val (.ref b132), .unset, .unset] [(.ref b132), .null])) (fun _ k => XS.astore X137.here hx rfl (hb hby at_130) rfl rfl (l' := #[.val (.int p0), .val (.int p1), .val (.int p2), .val (.int p3), .val (.int (p0 &&& (3 : Int32))), .val .null, .val (.ref b102), .val (.int (p1 &&& (3 : Int32))), .val (.ref b132), .unset, .unset]) rfl (XS.aload X137.here hx rfl (hb hby at_132) rfl rfl (XS.aload X137.here hx rfl (hb hby at_134) rfl rfl k))) ?_
          have XO138 : Old Z n0 h137 := (XO135.keep K137 (allS (Nat.le_trans Z0 (Nat.le_trans (Nat.le_trans (Nat.le_trans E102.1 (Nat.le_of_eq W103.size.symm)) (Nat.le_of_eq W104.size.symm)) (Nat.le_of_eq g132.symm))) all0))
          obtain ⟨_, _, ⟨T139, L139, k139, n139⟩, -, X139, ⟨Lc139, hQ139, l139, y139, z139⟩, st139⟩ := Jvm.LawKit.callS X137 hx (y := (⟨"com/example/task_callbacks/taskcallbacks/event/Listing", "of", "(Lcom/example/task_callbacks/taskcallbacks/event/EventStatus;Ljava/lang/String;)Lcom/example/task_callbacks/taskcallbacks/event/Listing;"⟩ : MethodName)) hown (mvT hZ (hw _ own_w30)) (mvT hZ (hw _ own_w31)) (mvT hZ (hw _ own_w32)) (mvT hZ (hw _ own_w33)) (by decide) (backOf (W := 0) (own_rm_of01 l Z a0 hw G1 S1 P1 lA lT lS lB eP eD eF tN tT tP tQ tS tB B [] b132 h137 n0 (Nat.le_trans Z0 (Nat.le_trans (Nat.le_trans (Nat.le_trans (Nat.le_trans E102.1 (Nat.le_of_eq W103.size.symm)) (Nat.le_of_eq W104.size.symm)) E132.1) K137.1)) XO138 ) hZ (hw _ own_w33) (hw _ own_w32) (by decide) (by decide)) (g := (mkF m 136 #[.val (.int p0), .val (.int p1), .val (.int p2), .val (.int p3), .val (.int (p0 &&& (3 : Int32))), .val .null, .val (.ref b102), .val (.int (p1 &&& (3 : Int32))), .val (.ref b132), .unset, .unset] [(.ref b132), .null])) rfl (by rw [hml]; rfl) (argsL := [.null, (.ref b132)]) (rest := []) (lenOf own_pd3 rfl) rfl (by show 2 * 0 + _ ≤ _; exact Nat.le_of_eq rfl) (hb hby at_136) (fun _ _ => ⟨rfl, e137, (by decide : 3 + 0 ≤ _), (by decide : 8 + 0 ≤ _)⟩)
          dsimp only [Pt.U, Pt.locs, Pt.cells, Pt.slots] at X139 l139 y139 z139 st139 hQ139
          subst l139 y139 z139
          obtain ⟨rfl, M139, e139⟩ := hQ139
          have N139 := Fr.app N137 M139
          refine own_st (S' := T139.setTop (mkF m 139 #[.val (.int p0), .val (.int p1), .val (.int p2), .val (.int p3), .val (.int (p0 &&& (3 : Int32))), .val .null, .val (.ref b102), .val (.int (p1 &&& (3 : Int32))), .val (.ref b132), .unset, .unset] [(.ref lT)])) st139 ?_
          refine own_st (S' := T139.setTop (mkF m 150 #[.val (.int p0), .val (.int p1), .val (.int p2), .val (.int p3), .val (.int (p0 &&& (3 : Int32))), .val .null, .val (.ref b102), .val (.int (p1 &&& (3 : Int32))), .val (.ref b132), .val (.ref lT), .unset] [.null])) (fun _ k => XS.astore X139.here hx rfl (hb hby at_139) rfl rfl (l' := #[.val (.int p0), .val (.int p1), .val (.int p2), .val (.int p3), .val (.int (p0 &&& (3 : Int32))), .val .null, .val (.ref b102), .val (.int (p1 &&& (3 : Int32))), .val (.ref b132), .val (.ref lT), .unset]) rfl (XS.aload X139.here hx rfl (hb hby at_141) rfl rfl (XS.ifnonnullYes X139.here hx rfl (pc0 := 143) (pc' := 148) rfl (hb hby at_143) rfl (by decide) (by decide) (XS.aload X139.here hx rfl (hb hby at_148) rfl rfl k)))) ?_
          refine own_st (S' := T139.setTop (mkF m 164 #[.val (.int p0), .val (.int p1), .val (.int p2), .val (.int p3), .val (.int (p0 &&& (3 : Int32))), .val .null, .val (.ref b102), .val (.int (p1 &&& (3 : Int32))), .val (.ref b132), .val (.ref lT), .unset] [])) (fun _ k => XS.ifnonnullNo X139.here hx rfl (hb hby at_150) rfl (XS.aload X139.here hx rfl (hb hby at_153) rfl rfl (XS.ifnonnullYes X139.here hx rfl (pc0 := 155) (pc' := 164) rfl (hb hby at_155) rfl (by decide) (by decide) k))) ?_
          have S140 : Sta Z h137 "com/example/task_callbacks/taskcallbacks/store/Table" "EVENTS_BY_TYPE" "Lcom/example/task_callbacks/taskcallbacks/store/Table;" (.ref tT) := (B8.ext XO138.2)
          obtain ⟨T141, X141, e141, st141⟩ := getS2 X139 hx hZ hown (host := "") (Or.inl (hw _ own_w36)) Via.refl e139 S140 (g := (mkF m 164 #[.val (.int p0), .val (.int p1), .val (.int p2), .val (.int p3), .val (.int (p0 &&& (3 : Int32))), .val .null, .val (.ref b102), .val (.int (p1 &&& (3 : Int32))), .val (.ref b132), .val (.ref lT), .unset] [])) rfl (hb hby at_164)
          refine own_st (S' := T141.setTop (mkF m 167 #[.val (.int p0), .val (.int p1), .val (.int p2), .val (.int p3), .val (.int (p0 &&& (3 : Int32))), .val .null, .val (.ref b102), .val (.int (p1 &&& (3 : Int32))), .val (.ref b132), .val (.ref lT), .unset] [(.ref tT)])) st141 ?_
          refine own_st (S' := T141.setTop (mkF m 219 #[.val (.int p0), .val (.int p1), .val (.int p2), .val (.int p3), .val (.int (p0 &&& (3 : Int32))), .val .null, .val (.ref b102), .val (.int (p1 &&& (3 : Int32))), .val (.ref b132), .val (.ref lT), .val (.ref tT)] [.null, (.ref lT)])) (fun _ k => XS.astore X141.here hx rfl (hb hby at_167) rfl rfl (l' := #[.val (.int p0), .val (.int p1), .val (.int p2), .val (.int p3), .val (.int (p0 &&& (3 : Int32))), .val .null, .val (.ref b102), .val (.int (p1 &&& (3 : Int32))), .val (.ref b132), .val (.ref lT), .val (.ref tT)]) rfl (XS.goto X141.here hx rfl (pc0 := 169) (pc' := 215) rfl (hb hby at_169) (by decide) (by decide) (XS.aload X141.here hx rfl (hb hby at_215) rfl rfl (XS.aload X141.here hx rfl (hb hby at_217) rfl rfl k)))) ?_
          have A143 : Exa Z h137 lT "com/example/task_callbacks/taskcallbacks/event/Listing" := (B14.ext XO138.2)
          obtain ⟨cq142, kq142, q142a, q142b, q142c⟩ := isOf hZ e141 A143
          obtain ⟨_, _, ⟨T142, L142, k142, n142⟩, -, X142, ⟨Lc142, hQ142, l142, y142, z142⟩, st142⟩ := X141.virtualBack hx (y := (⟨"com/example/task_callbacks/taskcallbacks/event/Listing", "table", "(Lcom/example/task_callbacks/taskcallbacks/event/EventStatus;)Lcom/example/task_callbacks/taskcallbacks/store/Table;"⟩ : MethodName)) (z := (⟨"com/example/task_callbacks/taskcallbacks/event/Listing", "table", "(Lcom/example/task_callbacks/taskcallbacks/event/EventStatus;)Lcom/example/task_callbacks/taskcallbacks/store/Table;"⟩ : MethodName)) hown (mvT hZ (hw _ own_w39)) (mvT hZ (hw _ own_w40)) (notFace_of_selects (args := #[]) (mvT hZ (hw _ own_w42))) (mvT hZ (hw _ own_w42)) (mvT hZ (hw _ own_w41)) (by decide) (backOf (W := 0) (own_rm_ta_null l Z a0 hw G1 S1 P1 lA lT lS lB eP eD eF tN tT tP tQ tS tB B [] lT tT h137 n0 (Nat.le_trans Z0 (Nat.le_trans (Nat.le_trans (Nat.le_trans (Nat.le_trans E102.1 (Nat.le_of_eq W103.size.symm)) (Nat.le_of_eq W104.size.symm)) E132.1) K137.1)) XO138 B19) hZ (hw _ own_w43) (hw _ own_w32) (by decide) (by decide)) q142a q142c (g := (mkF m 219 #[.val (.int p0), .val (.int p1), .val (.int p2), .val (.int p3), .val (.int (p0 &&& (3 : Int32))), .val .null, .val (.ref b102), .val (.int (p1 &&& (3 : Int32))), .val (.ref b132), .val (.ref lT), .val (.ref tT)] [.null, (.ref lT)])) rfl (by rw [hml]; rfl) (Steps.refl _) (argsL := [.null]) (rest := []) (lenOf own_pd4 rfl) rfl (by show 2 * 0 + _ ≤ _; exact Nat.le_of_eq rfl) (hb hby at_219) (fun _ _ => ⟨rfl, e141, (by decide : 3 + 0 ≤ _), (by decide : 8 + 0 ≤ _)⟩)
          dsimp only [Pt.U, Pt.locs, Pt.cells, Pt.slots] at X142 l142 y142 z142 st142 hQ142
          subst l142 y142 z142
          obtain ⟨rfl, M142, e142⟩ := hQ142
          have N142 := Fr.app N139 M142
          refine own_tr (S' := T142.setTop (mkF m 222 #[.val (.int p0), .val (.int p1), .val (.int p2), .val (.int p3), .val (.int (p0 &&& (3 : Int32))), .val .null, .val (.ref b102), .val (.int (p1 &&& (3 : Int32))), .val (.ref b132), .val (.ref lT), .val (.ref tT)] [(.ref tT)])) st142 ?_
          refine own_st (S' := T142.setTop (mkF m 224 #[.val (.int p0), .val (.int p1), .val (.int p2), .val (.int p3), .val (.int (p0 &&& (3 : Int32))), .val .null, .val (.ref b102), .val (.int (p1 &&& (3 : Int32))), .val (.ref b132), .val (.ref lT), .val (.ref tT)] [(.ref tT), (.ref tT)])) (fun _ k => XS.aload X142.here hx rfl (hb hby at_222) rfl rfl k) ?_
          refine own_st (S' := T142.setTop (mkF m 227 #[.val (.int p0), .val (.int p1), .val (.int p2), .val (.int p3), .val (.int (p0 &&& (3 : Int32))), .val .null, .val (.ref b102), .val (.int (p1 &&& (3 : Int32))), .val (.ref b132), .val (.ref lT), .val (.ref tT)] [])) (fun _ k => Jvm.RoadKit.acmp (g := (mkF m 224 #[.val (.int p0), .val (.int p1), .val (.int p2), .val (.int p3), .val (.int (p0 &&& (3 : Int32))), .val .null, .val (.ref b102), .val (.int (p1 &&& (3 : Int32))), .val (.ref b132), .val (.ref lT), .val (.ref tT)] [(.ref tT), (.ref tT)])) X142 hx rfl rfl rfl (pc0 := 224) (pc' := 227) (same := true) rfl (hb hby at_224) rfl (decide_eq_true rfl) (by decide) (by decide) k) ?_
          refine own_st (S' := T142.setTop (mkF m 232 #[.val (.int p0), .val (.int p1), .val (.int p2), .val (.int p3), .val (.int (p0 &&& (3 : Int32))), .val .null, .val (.ref b102), .val (.int (p1 &&& (3 : Int32))), .val (.ref b132), .val (.ref lT), .val (.ref tT)] [(.int (1 : Int32))])) (fun _ k => XS.iconst X142.here hx rfl (hb hby at_227) (XS.goto X142.here hx rfl (pc0 := 228) (pc' := 232) rfl (hb hby at_228) (by decide) (by decide) k)) ?_
          refine own_retNW X142 hx Bd.returns hlk rfl (Or.inl ⟨rfl, (by simp), _, rfl⟩) (hb hby at_232) (by decide) (by decide) ?_
          rw [e142]
          exact ⟨rfl, N142⟩
  · refine own_st (S' := s₁.setTop (mkF m 19 #[.val (.int p0), .val (.int p1), .val (.int p2), .val (.int p3), .val (.int (p0 &&& (3 : Int32))), .unset, .unset, .unset, .unset, .unset, .unset] [(.int (1 : Int32)), (.int (p0 &&& (3 : Int32)))])) (fun _ k => XS.ifYes X0.here hx rfl (pc0 := 7) (pc' := 16) rfl (hb hby at_7) rfl ((if0 _ _).trans (feq hc101).2) (by decide) (by decide) (XS.iload X0.here hx rfl (hb hby at_16) rfl (XS.iconst X0.here hx rfl (hb hby at_18) k))) ?_
    by_cases hc144 : (p0 &&& (3 : Int32)) = (1 : Int32)
    · refine own_st (S' := s₁.setTop (mkF m 22 #[.val (.int p0), .val (.int p1), .val (.int p2), .val (.int p3), .val (.int (p0 &&& (3 : Int32))), .unset, .unset, .unset, .unset, .unset, .unset] [])) (fun _ k => XS.icmpNo X0.here hx rfl (hb hby at_19) rfl (teq hc144).2 k) ?_
      have S145 : Sta Z h0 "com/example/task_callbacks/taskcallbacks/event/EventStatus" "PENDING" "Lcom/example/task_callbacks/taskcallbacks/event/EventStatus;" (.ref eP) := (B4.ext XO.2)
      obtain ⟨T146, X146, e146, st146⟩ := getS2 X0 hx hZ hown (host := "") (Or.inl (hw _ own_w53)) Via.refl e0 S145 (g := (mkF m 22 #[.val (.int p0), .val (.int p1), .val (.int p2), .val (.int p3), .val (.int (p0 &&& (3 : Int32))), .unset, .unset, .unset, .unset, .unset, .unset] [])) rfl (hb hby at_22)
      refine own_st (S' := T146.setTop (mkF m 25 #[.val (.int p0), .val (.int p1), .val (.int p2), .val (.int p3), .val (.int (p0 &&& (3 : Int32))), .unset, .unset, .unset, .unset, .unset, .unset] [(.ref eP)])) st146 ?_
      refine own_st (S' := T146.setTop (mkF m 50 #[.val (.int p0), .val (.int p1), .val (.int p2), .val (.int p3), .val (.int (p0 &&& (3 : Int32))), .val (.ref eP), .unset, .unset, .unset, .unset, .unset] [(.int (2 : Int32))])) (fun _ k => XS.astore X146.here hx rfl (hb hby at_25) rfl rfl (l' := #[.val (.int p0), .val (.int p1), .val (.int p2), .val (.int p3), .val (.int (p0 &&& (3 : Int32))), .val (.ref eP), .unset, .unset, .unset, .unset, .unset]) rfl (XS.goto X146.here hx rfl (pc0 := 27) (pc' := 49) rfl (hb hby at_27) (by decide) (by decide) (XS.iconst X146.here hx rfl (hb hby at_49) k))) ?_
      obtain ⟨T147, h147, k147, X147, e147, E147, A147, AE147, st147⟩ := newPE X146 hx hZ (aty := .char) (hw _ own_w0) e146 (g := (mkF m 50 #[.val (.int p0), .val (.int p1), .val (.int p2), .val (.int p3), .val (.int (p0 &&& (3 : Int32))), .val (.ref eP), .unset, .unset, .unset, .unset, .unset] [(.int (2 : Int32))])) rfl (hb hby at_50) rfl (by decide) (cap := 2) (by decide) (by decide) (by decide) (by decide) (ad := "[C") (by decide)
      obtain ⟨b147, g147⟩ : ∃ z, z = h0.size := ⟨_, rfl⟩
      rw [← g147] at A147 AE147 st147
      have V147 : Arv Z h147 b147 k147 .char (2 : Int32) [(.int (0 : Int32)), (.int (0 : Int32))] (.int (0 : Int32)) := (Arv.new A147 (by decide)).pad (pad_rep [] (.int (0 : Int32)) 2)
      refine own_st (S' := T147.setTop (mkF m 52 #[.val (.int p0), .val (.int p1), .val (.int p2), .val (.int p3), .val (.int (p0 &&& (3 : Int32))), .val (.ref eP), .unset, .unset, .unset, .unset, .unset] [(.ref b147)])) st147 ?_
      refine own_st (S' := T147.setTop (mkF m 58 #[.val (.int p0), .val (.int p1), .val (.int p2), .val (.int p3), .val (.int (p0 &&& (3 : Int32))), .val (.ref eP), .unset, .unset, .unset, .unset, .unset] [(.int (255 : Int32)), (.int p2), (.int (0 : Int32)), (.ref b147), (.ref b147)])) (fun _ k => XS.dup X147.here hx rfl (hb hby at_52) rfl rfl (XS.iconst X147.here hx rfl (hb hby at_53) (XS.iloadN X147.here hx rfl (hb hby at_54) rfl (XS.sipush X147.here hx rfl (hb hby at_55) k)))) ?_
      refine own_st (S' := T147.setTop (mkF m 60 #[.val (.int p0), .val (.int p1), .val (.int p2), .val (.int p3), .val (.int (p0 &&& (3 : Int32))), .val (.ref eP), .unset, .unset, .unset, .unset, .unset] [(.int ((p2 &&& (255 : Int32)).toUInt32.toUInt16.toUInt32.toInt32)), (.int (0 : Int32)), (.ref b147), (.ref b147)])) (fun _ k => XS.iand X147.here hx rfl (hb hby at_58) rfl (XS.i2c X147.here hx rfl (hb hby at_59) rfl k)) ?_
      obtain ⟨c148, A148, q148, S148, M148, H148, U148⟩ := id V147
      obtain ⟨T148, h148, X148, e148, W148, st148⟩ := stC X147 hx hZ e147 A148 (j := (0 : Int32)) (inb_of S148 ⟨by decide, by decide⟩) (g := (mkF m 60 #[.val (.int p0), .val (.int p1), .val (.int p2), .val (.int p3), .val (.int (p0 &&& (3 : Int32))), .val (.ref eP), .unset, .unset, .unset, .unset, .unset] [(.int ((p2 &&& (255 : Int32)).toUInt32.toUInt16.toUInt32.toInt32)), (.int (0 : Int32)), (.ref b147), (.ref b147)])) rfl rfl (hb hby at_60)
      have N148 := Fr.snoc X148 N0 (Nat.le_trans Z0 (Nat.le_of_eq g147.symm))
      have V148 : Arv Z h148 b147 k147 .char (2 : Int32) [(.int (nar .char ((p2 &&& (255 : Int32)).toUInt32.toUInt16.toUInt32.toInt32))), (.int (0 : Int32))] (.int (0 : Int32)) := Arv.set A148 q148 S148 M148 H148 U148 (fits_nar_char _) W148 0 rfl (Nat.le_of_ble_eq_true rfl)
      refine own_st (S' := T148.setTop (mkF m 61 #[.val (.int p0), .val (.int p1), .val (.int p2), .val (.int p3), .val (.int (p0 &&& (3 : Int32))), .val (.ref eP), .unset, .unset, .unset, .unset, .unset] [(.ref b147)])) st148 ?_
      refine own_st (S' := T148.setTop (mkF m 67 #[.val (.int p0), .val (.int p1), .val (.int p2), .val (.int p3), .val (.int (p0 &&& (3 : Int32))), .val (.ref eP), .unset, .unset, .unset, .unset, .unset] [(.int (255 : Int32)), (.int p3), (.int (1 : Int32)), (.ref b147), (.ref b147)])) (fun _ k => XS.dup X148.here hx rfl (hb hby at_61) rfl rfl (XS.iconst X148.here hx rfl (hb hby at_62) (XS.iloadN X148.here hx rfl (hb hby at_63) rfl (XS.sipush X148.here hx rfl (hb hby at_64) k)))) ?_
      refine own_st (S' := T148.setTop (mkF m 69 #[.val (.int p0), .val (.int p1), .val (.int p2), .val (.int p3), .val (.int (p0 &&& (3 : Int32))), .val (.ref eP), .unset, .unset, .unset, .unset, .unset] [(.int ((p3 &&& (255 : Int32)).toUInt32.toUInt16.toUInt32.toInt32)), (.int (1 : Int32)), (.ref b147), (.ref b147)])) (fun _ k => XS.iand X148.here hx rfl (hb hby at_67) rfl (XS.i2c X148.here hx rfl (hb hby at_68) rfl k)) ?_
      obtain ⟨c149, A149, q149, S149, M149, H149, U149⟩ := id V148
      obtain ⟨T149, h149, X149, e149, W149, st149⟩ := stC X148 hx hZ e148 A149 (j := (1 : Int32)) (inb_of S149 ⟨by decide, by decide⟩) (g := (mkF m 69 #[.val (.int p0), .val (.int p1), .val (.int p2), .val (.int p3), .val (.int (p0 &&& (3 : Int32))), .val (.ref eP), .unset, .unset, .unset, .unset, .unset] [(.int ((p3 &&& (255 : Int32)).toUInt32.toUInt16.toUInt32.toInt32)), (.int (1 : Int32)), (.ref b147), (.ref b147)])) rfl rfl (hb hby at_69)
      have N149 := Fr.snoc X149 N148 (Nat.le_trans Z0 (Nat.le_of_eq g147.symm))
      have V149 : Arv Z h149 b147 k147 .char (2 : Int32) [(.int (nar .char ((p2 &&& (255 : Int32)).toUInt32.toUInt16.toUInt32.toInt32))), (.int (nar .char ((p3 &&& (255 : Int32)).toUInt32.toUInt16.toUInt32.toInt32)))] (.int (0 : Int32)) := Arv.set A149 q149 S149 M149 H149 U149 (fits_nar_char _) W149 1 rfl (Nat.le_of_ble_eq_true rfl)
      refine own_st (S' := T149.setTop (mkF m 70 #[.val (.int p0), .val (.int p1), .val (.int p2), .val (.int p3), .val (.int (p0 &&& (3 : Int32))), .val (.ref eP), .unset, .unset, .unset, .unset, .unset] [(.ref b147)])) st149 ?_
      refine own_st (S' := T149.setTop (mkF m 75 #[.val (.int p0), .val (.int p1), .val (.int p2), .val (.int p3), .val (.int (p0 &&& (3 : Int32))), .val (.ref eP), .val (.ref b147), .unset, .unset, .unset, .unset] [(.int (p1 &&& (3 : Int32)))])) (fun _ k => XS.astore X149.here hx rfl (hb hby at_70) rfl rfl (l' := #[.val (.int p0), .val (.int p1), .val (.int p2), .val (.int p3), .val (.int (p0 &&& (3 : Int32))), .val (.ref eP), .val (.ref b147), .unset, .unset, .unset, .unset]) rfl (XS.iloadN X149.here hx rfl (hb hby at_72) rfl (XS.iconst X149.here hx rfl (hb hby at_73) (XS.iand X149.here hx rfl (hb hby at_74) rfl k)))) ?_
      refine own_st (S' := T149.setTop (mkF m 79 #[.val (.int p0), .val (.int p1), .val (.int p2), .val (.int p3), .val (.int (p0 &&& (3 : Int32))), .val (.ref eP), .val (.ref b147), .val (.int (p1 &&& (3 : Int32))), .unset, .unset, .unset] [(.int (p1 &&& (3 : Int32)))])) (fun _ k => XS.istore X149.here hx rfl (hb hby at_75) rfl (l' := #[.val (.int p0), .val (.int p1), .val (.int p2), .val (.int p3), .val (.int (p0 &&& (3 : Int32))), .val (.ref eP), .val (.ref b147), .val (.int (p1 &&& (3 : Int32))), .unset, .unset, .unset]) rfl (XS.iload X149.here hx rfl (hb hby at_77) rfl k)) ?_
      by_cases hc150 : (p1 &&& (3 : Int32)) = (0 : Int32)
      · refine own_st (S' := T149.setTop (mkF m 132 #[.val (.int p0), .val (.int p1), .val (.int p2), .val (.int p3), .val (.int (p0 &&& (3 : Int32))), .val (.ref eP), .val (.ref b147), .val (.int (p1 &&& (3 : Int32))), .val .null, .unset, .unset] [])) (fun _ k => XS.ifNo X149.here hx rfl (hb hby at_79) rfl ((if0 _ _).trans (teq hc150).2) (XS.aconstNull X149.here hx rfl (hb hby at_82) (XS.astore X149.here hx rfl (hb hby at_83) rfl rfl (l' := #[.val (.int p0), .val (.int p1), .val (.int p2), .val (.int p3), .val (.int (p0 &&& (3 : Int32))), .val (.ref eP), .val (.ref b147), .val (.int (p1 &&& (3 : Int32))), .val .null, .unset, .unset]) rfl (XS.goto X149.here hx rfl (pc0 := 85) (pc' := 132) rfl (hb hby at_85) (by decide) (by decide) k)))) ?_
        refine own_st (S' := T149.setTop (mkF m 136 #[.val (.int p0), .val (.int p1), .val (.int p2), .val (.int p3), .val (.int (p0 &&& (3 : Int32))), .val (.ref eP), .val (.ref b147), .val (.int (p1 &&& (3 : Int32))), .val .null, .unset, .unset] [.null, (.ref eP)])) (fun _ k => XS.aload X149.here hx rfl (hb hby at_132) rfl rfl (XS.aload X149.here hx rfl (hb hby at_134) rfl rfl k)) ?_
        have XE151 : Ext h0 h149 := (own_xw (own_xw E147 W148 (Nat.le_of_eq g147.symm)) W149 (Nat.le_of_eq g147.symm))
        have XO152 : Old Z n0 h149 := (XO.ext XE151)
        obtain ⟨_, _, ⟨T153, L153, k153, n153⟩, -, X153, ⟨Lc153, hQ153, l153, y153, z153⟩, st153⟩ := Jvm.LawKit.callS X149 hx (y := (⟨"com/example/task_callbacks/taskcallbacks/event/Listing", "of", "(Lcom/example/task_callbacks/taskcallbacks/event/EventStatus;Ljava/lang/String;)Lcom/example/task_callbacks/taskcallbacks/event/Listing;"⟩ : MethodName)) hown (mvT hZ (hw _ own_w30)) (mvT hZ (hw _ own_w31)) (mvT hZ (hw _ own_w32)) (mvT hZ (hw _ own_w33)) (by decide) (backOf (W := 0) (own_rm_of10 l Z a0 hw G1 S1 P1 lA lT lS lB eP eD eF tN tT tP tQ tS tB B [] eP h149 n0 (Nat.le_trans Z0 (Nat.le_trans (Nat.le_trans E147.1 (Nat.le_of_eq W148.size.symm)) (Nat.le_of_eq W149.size.symm))) XO152 ) hZ (hw _ own_w33) (hw _ own_w32) (by decide) (by decide)) (g := (mkF m 136 #[.val (.int p0), .val (.int p1), .val (.int p2), .val (.int p3), .val (.int (p0 &&& (3 : Int32))), .val (.ref eP), .val (.ref b147), .val (.int (p1 &&& (3 : Int32))), .val .null, .unset, .unset] [.null, (.ref eP)])) rfl (by rw [hml]; rfl) (argsL := [(.ref eP), .null]) (rest := []) (lenOf own_pd3 rfl) rfl (by show 2 * 0 + _ ≤ _; exact Nat.le_of_eq rfl) (hb hby at_136) (fun _ _ => ⟨rfl, e149, (by decide : 1 + 0 ≤ _), (by decide : 2 + 0 ≤ _)⟩)
        dsimp only [Pt.U, Pt.locs, Pt.cells, Pt.slots] at X153 l153 y153 z153 st153 hQ153
        subst l153 y153 z153
        obtain ⟨rfl, M153, e153⟩ := hQ153
        have N153 := Fr.app N149 M153
        refine own_st (S' := T153.setTop (mkF m 139 #[.val (.int p0), .val (.int p1), .val (.int p2), .val (.int p3), .val (.int (p0 &&& (3 : Int32))), .val (.ref eP), .val (.ref b147), .val (.int (p1 &&& (3 : Int32))), .val .null, .unset, .unset] [(.ref lS)])) st153 ?_
        refine own_st (S' := T153.setTop (mkF m 150 #[.val (.int p0), .val (.int p1), .val (.int p2), .val (.int p3), .val (.int (p0 &&& (3 : Int32))), .val (.ref eP), .val (.ref b147), .val (.int (p1 &&& (3 : Int32))), .val .null, .val (.ref lS), .unset] [(.ref eP)])) (fun _ k => XS.astore X153.here hx rfl (hb hby at_139) rfl rfl (l' := #[.val (.int p0), .val (.int p1), .val (.int p2), .val (.int p3), .val (.int (p0 &&& (3 : Int32))), .val (.ref eP), .val (.ref b147), .val (.int (p1 &&& (3 : Int32))), .val .null, .val (.ref lS), .unset]) rfl (XS.aload X153.here hx rfl (hb hby at_141) rfl rfl (XS.ifnonnullYes X153.here hx rfl (pc0 := 143) (pc' := 148) rfl (hb hby at_143) rfl (by decide) (by decide) (XS.aload X153.here hx rfl (hb hby at_148) rfl rfl k)))) ?_
        refine own_st (S' := T153.setTop (mkF m 174 #[.val (.int p0), .val (.int p1), .val (.int p2), .val (.int p3), .val (.int (p0 &&& (3 : Int32))), .val (.ref eP), .val (.ref b147), .val (.int (p1 &&& (3 : Int32))), .val .null, .val (.ref lS), .unset] [(.ref eP)])) (fun _ k => XS.ifnonnullYes X153.here hx rfl (pc0 := 150) (pc' := 172) rfl (hb hby at_150) rfl (by decide) (by decide) (XS.aload X153.here hx rfl (hb hby at_172) rfl rfl k)) ?_
        have S154 : Sta Z h149 "com/example/task_callbacks/taskcallbacks/event/EventStatus" "PENDING" "Lcom/example/task_callbacks/taskcallbacks/event/EventStatus;" (.ref eP) := (B4.ext XO152.2)
        obtain ⟨T155, X155, e155, st155⟩ := getS2 X153 hx hZ hown (host := "") (Or.inl (hw _ own_w53)) Via.refl e153 S154 (g := (mkF m 174 #[.val (.int p0), .val (.int p1), .val (.int p2), .val (.int p3), .val (.int (p0 &&& (3 : Int32))), .val (.ref eP), .val (.ref b147), .val (.int (p1 &&& (3 : Int32))), .val .null, .val (.ref lS), .unset] [(.ref eP)])) rfl (hb hby at_174)
        refine own_st (S' := T155.setTop (mkF m 177 #[.val (.int p0), .val (.int p1), .val (.int p2), .val (.int p3), .val (.int (p0 &&& (3 : Int32))), .val (.ref eP), .val (.ref b147), .val (.int (p1 &&& (3 : Int32))), .val .null, .val (.ref lS), .unset] [(.ref eP), (.ref eP)])) st155 ?_
        refine own_st (S' := T155.setTop (mkF m 180 #[.val (.int p0), .val (.int p1), .val (.int p2), .val (.int p3), .val (.int (p0 &&& (3 : Int32))), .val (.ref eP), .val (.ref b147), .val (.int (p1 &&& (3 : Int32))), .val .null, .val (.ref lS), .unset] [])) (fun _ k => Jvm.RoadKit.acmp (g := (mkF m 177 #[.val (.int p0), .val (.int p1), .val (.int p2), .val (.int p3), .val (.int (p0 &&& (3 : Int32))), .val (.ref eP), .val (.ref b147), .val (.int (p1 &&& (3 : Int32))), .val .null, .val (.ref lS), .unset] [(.ref eP), (.ref eP)])) X155 hx rfl rfl rfl (pc0 := 177) (pc' := 180) (same := true) rfl (hb hby at_177) rfl (decide_eq_true rfl) (by decide) (by decide) k) ?_
        refine own_st (S' := T155.setTop (mkF m 185 #[.val (.int p0), .val (.int p1), .val (.int p2), .val (.int p3), .val (.int (p0 &&& (3 : Int32))), .val (.ref eP), .val (.ref b147), .val (.int (p1 &&& (3 : Int32))), .val .null, .val (.ref lS), .unset] [])) (fun _ k => XS.aload X155.here hx rfl (hb hby at_180) rfl rfl (XS.ifnonnullNo X155.here hx rfl (hb hby at_182) rfl k)) ?_
        have S156 : Sta Z h149 "com/example/task_callbacks/taskcallbacks/store/Table" "PENDING_EVENTS" "Lcom/example/task_callbacks/taskcallbacks/store/Table;" (.ref tP) := (B9.ext XO152.2)
        obtain ⟨T157, X157, e157, st157⟩ := getS2 X155 hx hZ hown (host := "") (Or.inl (hw _ own_w74)) Via.refl e155 S156 (g := (mkF m 185 #[.val (.int p0), .val (.int p1), .val (.int p2), .val (.int p3), .val (.int (p0 &&& (3 : Int32))), .val (.ref eP), .val (.ref b147), .val (.int (p1 &&& (3 : Int32))), .val .null, .val (.ref lS), .unset] [])) rfl (hb hby at_185)
        refine own_st (S' := T157.setTop (mkF m 188 #[.val (.int p0), .val (.int p1), .val (.int p2), .val (.int p3), .val (.int (p0 &&& (3 : Int32))), .val (.ref eP), .val (.ref b147), .val (.int (p1 &&& (3 : Int32))), .val .null, .val (.ref lS), .unset] [(.ref tP)])) st157 ?_
        refine own_st (S' := T157.setTop (mkF m 217 #[.val (.int p0), .val (.int p1), .val (.int p2), .val (.int p3), .val (.int (p0 &&& (3 : Int32))), .val (.ref eP), .val (.ref b147), .val (.int (p1 &&& (3 : Int32))), .val .null, .val (.ref lS), .val (.ref tP)] [(.ref lS)])) (fun _ k => XS.goto X157.here hx rfl (pc0 := 188) (pc' := 194) rfl (hb hby at_188) (by decide) (by decide) (XS.astore X157.here hx rfl (hb hby at_194) rfl rfl (l' := #[.val (.int p0), .val (.int p1), .val (.int p2), .val (.int p3), .val (.int (p0 &&& (3 : Int32))), .val (.ref eP), .val (.ref b147), .val (.int (p1 &&& (3 : Int32))), .val .null, .val (.ref lS), .val (.ref tP)]) rfl (XS.goto X157.here hx rfl (pc0 := 196) (pc' := 215) rfl (hb hby at_196) (by decide) (by decide) (XS.aload X157.here hx rfl (hb hby at_215) rfl rfl k)))) ?_
        refine own_st (S' := T157.setTop (mkF m 219 #[.val (.int p0), .val (.int p1), .val (.int p2), .val (.int p3), .val (.int (p0 &&& (3 : Int32))), .val (.ref eP), .val (.ref b147), .val (.int (p1 &&& (3 : Int32))), .val .null, .val (.ref lS), .val (.ref tP)] [(.ref eP), (.ref lS)])) (fun _ k => XS.aload X157.here hx rfl (hb hby at_217) rfl rfl k) ?_
        have A159 : Exa Z h149 lS "com/example/task_callbacks/taskcallbacks/event/Listing" := (B15.ext XO152.2)
        obtain ⟨cq158, kq158, q158a, q158b, q158c⟩ := isOf hZ e157 A159
        obtain ⟨_, _, ⟨T158, L158, k158, n158⟩, -, X158, ⟨Lc158, hQ158, l158, y158, z158⟩, st158⟩ := X157.virtualBack hx (y := (⟨"com/example/task_callbacks/taskcallbacks/event/Listing", "table", "(Lcom/example/task_callbacks/taskcallbacks/event/EventStatus;)Lcom/example/task_callbacks/taskcallbacks/store/Table;"⟩ : MethodName)) (z := (⟨"com/example/task_callbacks/taskcallbacks/event/Listing", "table", "(Lcom/example/task_callbacks/taskcallbacks/event/EventStatus;)Lcom/example/task_callbacks/taskcallbacks/store/Table;"⟩ : MethodName)) hown (mvT hZ (hw _ own_w39)) (mvT hZ (hw _ own_w40)) (notFace_of_selects (args := #[]) (mvT hZ (hw _ own_w42))) (mvT hZ (hw _ own_w42)) (mvT hZ (hw _ own_w41)) (by decide) (backOf (W := 0) (own_rm_ta_eP l Z a0 hw G1 S1 P1 lA lT lS lB eP eD eF tN tT tP tQ tS tB B [] lS tP h149 n0 (Nat.le_trans Z0 (Nat.le_trans (Nat.le_trans E147.1 (Nat.le_of_eq W148.size.symm)) (Nat.le_of_eq W149.size.symm))) XO152 B22) hZ (hw _ own_w43) (hw _ own_w32) (by decide) (by decide)) q158a q158c (g := (mkF m 219 #[.val (.int p0), .val (.int p1), .val (.int p2), .val (.int p3), .val (.int (p0 &&& (3 : Int32))), .val (.ref eP), .val (.ref b147), .val (.int (p1 &&& (3 : Int32))), .val .null, .val (.ref lS), .val (.ref tP)] [(.ref eP), (.ref lS)])) rfl (by rw [hml]; rfl) (Steps.refl _) (argsL := [(.ref eP)]) (rest := []) (lenOf own_pd4 rfl) rfl (by show 2 * 0 + _ ≤ _; exact Nat.le_of_eq rfl) (hb hby at_219) (fun _ _ => ⟨rfl, e157, (by decide : 1 + 0 ≤ _), (by decide : 2 + 0 ≤ _)⟩)
        dsimp only [Pt.U, Pt.locs, Pt.cells, Pt.slots] at X158 l158 y158 z158 st158 hQ158
        subst l158 y158 z158
        obtain ⟨rfl, M158, e158⟩ := hQ158
        have N158 := Fr.app N153 M158
        refine own_tr (S' := T158.setTop (mkF m 222 #[.val (.int p0), .val (.int p1), .val (.int p2), .val (.int p3), .val (.int (p0 &&& (3 : Int32))), .val (.ref eP), .val (.ref b147), .val (.int (p1 &&& (3 : Int32))), .val .null, .val (.ref lS), .val (.ref tP)] [(.ref tP)])) st158 ?_
        refine own_st (S' := T158.setTop (mkF m 224 #[.val (.int p0), .val (.int p1), .val (.int p2), .val (.int p3), .val (.int (p0 &&& (3 : Int32))), .val (.ref eP), .val (.ref b147), .val (.int (p1 &&& (3 : Int32))), .val .null, .val (.ref lS), .val (.ref tP)] [(.ref tP), (.ref tP)])) (fun _ k => XS.aload X158.here hx rfl (hb hby at_222) rfl rfl k) ?_
        refine own_st (S' := T158.setTop (mkF m 227 #[.val (.int p0), .val (.int p1), .val (.int p2), .val (.int p3), .val (.int (p0 &&& (3 : Int32))), .val (.ref eP), .val (.ref b147), .val (.int (p1 &&& (3 : Int32))), .val .null, .val (.ref lS), .val (.ref tP)] [])) (fun _ k => Jvm.RoadKit.acmp (g := (mkF m 224 #[.val (.int p0), .val (.int p1), .val (.int p2), .val (.int p3), .val (.int (p0 &&& (3 : Int32))), .val (.ref eP), .val (.ref b147), .val (.int (p1 &&& (3 : Int32))), .val .null, .val (.ref lS), .val (.ref tP)] [(.ref tP), (.ref tP)])) X158 hx rfl rfl rfl (pc0 := 224) (pc' := 227) (same := true) rfl (hb hby at_224) rfl (decide_eq_true rfl) (by decide) (by decide) k) ?_
        refine own_st (S' := T158.setTop (mkF m 232 #[.val (.int p0), .val (.int p1), .val (.int p2), .val (.int p3), .val (.int (p0 &&& (3 : Int32))), .val (.ref eP), .val (.ref b147), .val (.int (p1 &&& (3 : Int32))), .val .null, .val (.ref lS), .val (.ref tP)] [(.int (1 : Int32))])) (fun _ k => XS.iconst X158.here hx rfl (hb hby at_227) (XS.goto X158.here hx rfl (pc0 := 228) (pc' := 232) rfl (hb hby at_228) (by decide) (by decide) k)) ?_
        refine own_retNW X158 hx Bd.returns hlk rfl (Or.inl ⟨rfl, (by simp), _, rfl⟩) (hb hby at_232) (by decide) (by decide) ?_
        rw [e158]
        exact ⟨rfl, N158⟩
      · refine own_st (S' := T149.setTop (mkF m 91 #[.val (.int p0), .val (.int p1), .val (.int p2), .val (.int p3), .val (.int (p0 &&& (3 : Int32))), .val (.ref eP), .val (.ref b147), .val (.int (p1 &&& (3 : Int32))), .unset, .unset, .unset] [(.int (1 : Int32)), (.int (p1 &&& (3 : Int32)))])) (fun _ k => XS.ifYes X149.here hx rfl (pc0 := 79) (pc' := 88) rfl (hb hby at_79) rfl ((if0 _ _).trans (feq hc150).2) (by decide) (by decide) (XS.iload X149.here hx rfl (hb hby at_88) rfl (XS.iconst X149.here hx rfl (hb hby at_90) k))) ?_
        by_cases hc160 : (p1 &&& (3 : Int32)) = (1 : Int32)
        · refine own_st (S' := T149.setTop (mkF m 94 #[.val (.int p0), .val (.int p1), .val (.int p2), .val (.int p3), .val (.int (p0 &&& (3 : Int32))), .val (.ref eP), .val (.ref b147), .val (.int (p1 &&& (3 : Int32))), .unset, .unset, .unset] [])) (fun _ k => XS.icmpNo X149.here hx rfl (hb hby at_91) rfl (teq hc160).2 k) ?_
          obtain ⟨u161, T161, h161, k161, X161, e161, E161, sn161, sk161, hz161, ho161, st161⟩ := ldcS (s := s) (vm0 := s.vm) X149 hx hZ hown (hw _ own_w78) (fun d hd => hw d ((by decide +kernel : ∀ d ∈ Bundle.stringAtoms, d ∈ tables_1) d hd)) e149 ((State.WarmedH.refl s).since 0) (Nat.zero_le _) (g := (mkF m 94 #[.val (.int p0), .val (.int p1), .val (.int p2), .val (.int p3), .val (.int (p0 &&& (3 : Int32))), .val (.ref eP), .val (.ref b147), .val (.int (p1 &&& (3 : Int32))), .unset, .unset, .unset] [])) rfl (hb hby at_94) (n := 0) (by decide) (by decide) (by decide) (by decide)
          refine own_st (S' := T161.setTop (mkF m 96 #[.val (.int p0), .val (.int p1), .val (.int p2), .val (.int p3), .val (.int (p0 &&& (3 : Int32))), .val (.ref eP), .val (.ref b147), .val (.int (p1 &&& (3 : Int32))), .unset, .unset, .unset] [(.ref u161)])) st161 ?_
          refine own_st (S' := T161.setTop (mkF m 136 #[.val (.int p0), .val (.int p1), .val (.int p2), .val (.int p3), .val (.int (p0 &&& (3 : Int32))), .val (.ref eP), .val (.ref b147), .val (.int (p1 &&& (3 : Int32))), .val (.ref u161), .unset, .unset] [(.ref u161), (.ref eP)])) (fun _ k => XS.astore X161.here hx rfl (hb hby at_96) rfl rfl (l' := #[.val (.int p0), .val (.int p1), .val (.int p2), .val (.int p3), .val (.int (p0 &&& (3 : Int32))), .val (.ref eP), .val (.ref b147), .val (.int (p1 &&& (3 : Int32))), .val (.ref u161), .unset, .unset]) rfl (XS.goto X161.here hx rfl (pc0 := 98) (pc' := 132) rfl (hb hby at_98) (by decide) (by decide) (XS.aload X161.here hx rfl (hb hby at_132) rfl rfl (XS.aload X161.here hx rfl (hb hby at_134) rfl rfl k)))) ?_
          have XE162 : Ext h0 h161 := (own_xt (own_xw (own_xw E147 W148 (Nat.le_of_eq g147.symm)) W149 (Nat.le_of_eq g147.symm)) E161)
          have XO163 : Old Z n0 h161 := (XO.ext XE162)
          obtain ⟨_, _, ⟨T164, L164, k164, n164⟩, -, X164, ⟨Lc164, hQ164, l164, y164, z164⟩, st164⟩ := Jvm.LawKit.callS X161 hx (y := (⟨"com/example/task_callbacks/taskcallbacks/event/Listing", "of", "(Lcom/example/task_callbacks/taskcallbacks/event/EventStatus;Ljava/lang/String;)Lcom/example/task_callbacks/taskcallbacks/event/Listing;"⟩ : MethodName)) ho161 (mvT hz161 (hw _ own_w30)) (mvT hz161 (hw _ own_w31)) (mvT hz161 (hw _ own_w32)) (mvT hz161 (hw _ own_w33)) (by decide) (backOf (W := 0) (own_rm_of11 l Z a0 hw G1 S1 P1 lA lT lS lB eP eD eF tN tT tP tQ tS tB B [] eP u161 h161 n0 (Nat.le_trans Z0 (Nat.le_trans (Nat.le_trans (Nat.le_trans E147.1 (Nat.le_of_eq W148.size.symm)) (Nat.le_of_eq W149.size.symm)) E161.1)) XO163 ) hz161 (hw _ own_w33) (hw _ own_w32) (by decide) (by decide)) (g := (mkF m 136 #[.val (.int p0), .val (.int p1), .val (.int p2), .val (.int p3), .val (.int (p0 &&& (3 : Int32))), .val (.ref eP), .val (.ref b147), .val (.int (p1 &&& (3 : Int32))), .val (.ref u161), .unset, .unset] [(.ref u161), (.ref eP)])) rfl (by rw [hml]; rfl) (argsL := [(.ref eP), (.ref u161)]) (rest := []) (lenOf own_pd3 rfl) rfl (by show 2 * 0 + _ ≤ _; exact Nat.le_of_eq rfl) (hb hby at_136) (fun _ _ => ⟨rfl, e161, (by decide : 3 + 0 ≤ _), (by decide : 6 + 0 ≤ _)⟩)
          dsimp only [Pt.U, Pt.locs, Pt.cells, Pt.slots] at X164 l164 y164 z164 st164 hQ164
          subst l164 y164 z164
          obtain ⟨rfl, M164, e164⟩ := hQ164
          have N164 := Fr.app N149 M164
          refine own_st (S' := T164.setTop (mkF m 139 #[.val (.int p0), .val (.int p1), .val (.int p2), .val (.int p3), .val (.int (p0 &&& (3 : Int32))), .val (.ref eP), .val (.ref b147), .val (.int (p1 &&& (3 : Int32))), .val (.ref u161), .unset, .unset] [(.ref lB)])) st164 ?_
          refine own_st (S' := T164.setTop (mkF m 150 #[.val (.int p0), .val (.int p1), .val (.int p2), .val (.int p3), .val (.int (p0 &&& (3 : Int32))), .val (.ref eP), .val (.ref b147), .val (.int (p1 &&& (3 : Int32))), .val (.ref u161), .val (.ref lB), .unset] [(.ref eP)])) (fun _ k => XS.astore X164.here hx rfl (hb hby at_139) rfl rfl (l' := #[.val (.int p0), .val (.int p1), .val (.int p2), .val (.int p3), .val (.int (p0 &&& (3 : Int32))), .val (.ref eP), .val (.ref b147), .val (.int (p1 &&& (3 : Int32))), .val (.ref u161), .val (.ref lB), .unset]) rfl (XS.aload X164.here hx rfl (hb hby at_141) rfl rfl (XS.ifnonnullYes X164.here hx rfl (pc0 := 143) (pc' := 148) rfl (hb hby at_143) rfl (by decide) (by decide) (XS.aload X164.here hx rfl (hb hby at_148) rfl rfl k)))) ?_
          refine own_st (S' := T164.setTop (mkF m 174 #[.val (.int p0), .val (.int p1), .val (.int p2), .val (.int p3), .val (.int (p0 &&& (3 : Int32))), .val (.ref eP), .val (.ref b147), .val (.int (p1 &&& (3 : Int32))), .val (.ref u161), .val (.ref lB), .unset] [(.ref eP)])) (fun _ k => XS.ifnonnullYes X164.here hx rfl (pc0 := 150) (pc' := 172) rfl (hb hby at_150) rfl (by decide) (by decide) (XS.aload X164.here hx rfl (hb hby at_172) rfl rfl k)) ?_
          have S165 : Sta Z h161 "com/example/task_callbacks/taskcallbacks/event/EventStatus" "PENDING" "Lcom/example/task_callbacks/taskcallbacks/event/EventStatus;" (.ref eP) := (B4.ext XO163.2)
          obtain ⟨T166, X166, e166, st166⟩ := getS2 X164 hx hz161 ho161 (host := "") (Or.inl (hw _ own_w53)) Via.refl e164 S165 (g := (mkF m 174 #[.val (.int p0), .val (.int p1), .val (.int p2), .val (.int p3), .val (.int (p0 &&& (3 : Int32))), .val (.ref eP), .val (.ref b147), .val (.int (p1 &&& (3 : Int32))), .val (.ref u161), .val (.ref lB), .unset] [(.ref eP)])) rfl (hb hby at_174)
          refine own_st (S' := T166.setTop (mkF m 177 #[.val (.int p0), .val (.int p1), .val (.int p2), .val (.int p3), .val (.int (p0 &&& (3 : Int32))), .val (.ref eP), .val (.ref b147), .val (.int (p1 &&& (3 : Int32))), .val (.ref u161), .val (.ref lB), .unset] [(.ref eP), (.ref eP)])) st166 ?_
          refine own_st (S' := T166.setTop (mkF m 180 #[.val (.int p0), .val (.int p1), .val (.int p2), .val (.int p3), .val (.int (p0 &&& (3 : Int32))), .val (.ref eP), .val (.ref b147), .val (.int (p1 &&& (3 : Int32))), .val (.ref u161), .val (.ref lB), .unset] [])) (fun _ k => Jvm.RoadKit.acmp (g := (mkF m 177 #[.val (.int p0), .val (.int p1), .val (.int p2), .val (.int p3), .val (.int (p0 &&& (3 : Int32))), .val (.ref eP), .val (.ref b147), .val (.int (p1 &&& (3 : Int32))), .val (.ref u161), .val (.ref lB), .unset] [(.ref eP), (.ref eP)])) X166 hx rfl rfl rfl (pc0 := 177) (pc' := 180) (same := true) rfl (hb hby at_177) rfl (decide_eq_true rfl) (by decide) (by decide) k) ?_
          refine own_st (S' := T166.setTop (mkF m 191 #[.val (.int p0), .val (.int p1), .val (.int p2), .val (.int p3), .val (.int (p0 &&& (3 : Int32))), .val (.ref eP), .val (.ref b147), .val (.int (p1 &&& (3 : Int32))), .val (.ref u161), .val (.ref lB), .unset] [])) (fun _ k => XS.aload X166.here hx rfl (hb hby at_180) rfl rfl (XS.ifnonnullYes X166.here hx rfl (pc0 := 182) (pc' := 191) rfl (hb hby at_182) rfl (by decide) (by decide) k)) ?_
          have S167 : Sta Z h161 "com/example/task_callbacks/taskcallbacks/store/Table" "PENDING_EVENTS_BY_TYPE" "Lcom/example/task_callbacks/taskcallbacks/store/Table;" (.ref tQ) := (B10.ext XO163.2)
          obtain ⟨T168, X168, e168, st168⟩ := getS2 X166 hx hz161 ho161 (host := "") (Or.inl (hw _ own_w81)) Via.refl e166 S167 (g := (mkF m 191 #[.val (.int p0), .val (.int p1), .val (.int p2), .val (.int p3), .val (.int (p0 &&& (3 : Int32))), .val (.ref eP), .val (.ref b147), .val (.int (p1 &&& (3 : Int32))), .val (.ref u161), .val (.ref lB), .unset] [])) rfl (hb hby at_191)
          refine own_st (S' := T168.setTop (mkF m 194 #[.val (.int p0), .val (.int p1), .val (.int p2), .val (.int p3), .val (.int (p0 &&& (3 : Int32))), .val (.ref eP), .val (.ref b147), .val (.int (p1 &&& (3 : Int32))), .val (.ref u161), .val (.ref lB), .unset] [(.ref tQ)])) st168 ?_
          refine own_st (S' := T168.setTop (mkF m 219 #[.val (.int p0), .val (.int p1), .val (.int p2), .val (.int p3), .val (.int (p0 &&& (3 : Int32))), .val (.ref eP), .val (.ref b147), .val (.int (p1 &&& (3 : Int32))), .val (.ref u161), .val (.ref lB), .val (.ref tQ)] [(.ref eP), (.ref lB)])) (fun _ k => XS.astore X168.here hx rfl (hb hby at_194) rfl rfl (l' := #[.val (.int p0), .val (.int p1), .val (.int p2), .val (.int p3), .val (.int (p0 &&& (3 : Int32))), .val (.ref eP), .val (.ref b147), .val (.int (p1 &&& (3 : Int32))), .val (.ref u161), .val (.ref lB), .val (.ref tQ)]) rfl (XS.goto X168.here hx rfl (pc0 := 196) (pc' := 215) rfl (hb hby at_196) (by decide) (by decide) (XS.aload X168.here hx rfl (hb hby at_215) rfl rfl (XS.aload X168.here hx rfl (hb hby at_217) rfl rfl k)))) ?_
          have A170 : Exa Z h161 lB "com/example/task_callbacks/taskcallbacks/event/Listing" := (B16.ext XO163.2)
          obtain ⟨cq169, kq169, q169a, q169b, q169c⟩ := isOf hz161 e168 A170
          obtain ⟨_, _, ⟨T169, L169, k169, n169⟩, -, X169, ⟨Lc169, hQ169, l169, y169, z169⟩, st169⟩ := X168.virtualBack hx (y := (⟨"com/example/task_callbacks/taskcallbacks/event/Listing", "table", "(Lcom/example/task_callbacks/taskcallbacks/event/EventStatus;)Lcom/example/task_callbacks/taskcallbacks/store/Table;"⟩ : MethodName)) (z := (⟨"com/example/task_callbacks/taskcallbacks/event/Listing", "table", "(Lcom/example/task_callbacks/taskcallbacks/event/EventStatus;)Lcom/example/task_callbacks/taskcallbacks/store/Table;"⟩ : MethodName)) ho161 (mvT hz161 (hw _ own_w39)) (mvT hz161 (hw _ own_w40)) (notFace_of_selects (args := #[]) (mvT hz161 (hw _ own_w42))) (mvT hz161 (hw _ own_w42)) (mvT hz161 (hw _ own_w41)) (by decide) (backOf (W := 0) (own_rm_ta_eP l Z a0 hw G1 S1 P1 lA lT lS lB eP eD eF tN tT tP tQ tS tB B [] lB tQ h161 n0 (Nat.le_trans Z0 (Nat.le_trans (Nat.le_trans (Nat.le_trans E147.1 (Nat.le_of_eq W148.size.symm)) (Nat.le_of_eq W149.size.symm)) E161.1)) XO163 B24) hz161 (hw _ own_w43) (hw _ own_w32) (by decide) (by decide)) q169a q169c (g := (mkF m 219 #[.val (.int p0), .val (.int p1), .val (.int p2), .val (.int p3), .val (.int (p0 &&& (3 : Int32))), .val (.ref eP), .val (.ref b147), .val (.int (p1 &&& (3 : Int32))), .val (.ref u161), .val (.ref lB), .val (.ref tQ)] [(.ref eP), (.ref lB)])) rfl (by rw [hml]; rfl) (Steps.refl _) (argsL := [(.ref eP)]) (rest := []) (lenOf own_pd4 rfl) rfl (by show 2 * 0 + _ ≤ _; exact Nat.le_of_eq rfl) (hb hby at_219) (fun _ _ => ⟨rfl, e168, (by decide : 3 + 0 ≤ _), (by decide : 6 + 0 ≤ _)⟩)
          dsimp only [Pt.U, Pt.locs, Pt.cells, Pt.slots] at X169 l169 y169 z169 st169 hQ169
          subst l169 y169 z169
          obtain ⟨rfl, M169, e169⟩ := hQ169
          have N169 := Fr.app N164 M169
          refine own_tr (S' := T169.setTop (mkF m 222 #[.val (.int p0), .val (.int p1), .val (.int p2), .val (.int p3), .val (.int (p0 &&& (3 : Int32))), .val (.ref eP), .val (.ref b147), .val (.int (p1 &&& (3 : Int32))), .val (.ref u161), .val (.ref lB), .val (.ref tQ)] [(.ref tQ)])) st169 ?_
          refine own_st (S' := T169.setTop (mkF m 224 #[.val (.int p0), .val (.int p1), .val (.int p2), .val (.int p3), .val (.int (p0 &&& (3 : Int32))), .val (.ref eP), .val (.ref b147), .val (.int (p1 &&& (3 : Int32))), .val (.ref u161), .val (.ref lB), .val (.ref tQ)] [(.ref tQ), (.ref tQ)])) (fun _ k => XS.aload X169.here hx rfl (hb hby at_222) rfl rfl k) ?_
          refine own_st (S' := T169.setTop (mkF m 227 #[.val (.int p0), .val (.int p1), .val (.int p2), .val (.int p3), .val (.int (p0 &&& (3 : Int32))), .val (.ref eP), .val (.ref b147), .val (.int (p1 &&& (3 : Int32))), .val (.ref u161), .val (.ref lB), .val (.ref tQ)] [])) (fun _ k => Jvm.RoadKit.acmp (g := (mkF m 224 #[.val (.int p0), .val (.int p1), .val (.int p2), .val (.int p3), .val (.int (p0 &&& (3 : Int32))), .val (.ref eP), .val (.ref b147), .val (.int (p1 &&& (3 : Int32))), .val (.ref u161), .val (.ref lB), .val (.ref tQ)] [(.ref tQ), (.ref tQ)])) X169 hx rfl rfl rfl (pc0 := 224) (pc' := 227) (same := true) rfl (hb hby at_224) rfl (decide_eq_true rfl) (by decide) (by decide) k) ?_
          refine own_st (S' := T169.setTop (mkF m 232 #[.val (.int p0), .val (.int p1), .val (.int p2), .val (.int p3), .val (.int (p0 &&& (3 : Int32))), .val (.ref eP), .val (.ref b147), .val (.int (p1 &&& (3 : Int32))), .val (.ref u161), .val (.ref lB), .val (.ref tQ)] [(.int (1 : Int32))])) (fun _ k => XS.iconst X169.here hx rfl (hb hby at_227) (XS.goto X169.here hx rfl (pc0 := 228) (pc' := 232) rfl (hb hby at_228) (by decide) (by decide) k)) ?_
          refine own_retW X169 hx sn161 (by rw [e169]; exact Nat.le_trans sk161 (Nat.le_refl _)) Bd.returns hlk rfl (Or.inl ⟨rfl, (by simp), _, rfl⟩) (hb hby at_232) (by decide) (by decide) ?_
          rw [e169]
          exact ⟨rfl, N169⟩
        · refine own_st (S' := T149.setTop (mkF m 104 #[.val (.int p0), .val (.int p1), .val (.int p2), .val (.int p3), .val (.int (p0 &&& (3 : Int32))), .val (.ref eP), .val (.ref b147), .val (.int (p1 &&& (3 : Int32))), .unset, .unset, .unset] [(.int (2 : Int32)), (.int (p1 &&& (3 : Int32)))])) (fun _ k => XS.icmpYes X149.here hx rfl (pc0 := 91) (pc' := 101) rfl (hb hby at_91) rfl (feq hc160).2 (by decide) (by decide) (XS.iload X149.here hx rfl (hb hby at_101) rfl (XS.iconst X149.here hx rfl (hb hby at_103) k))) ?_
          by_cases hc171 : (p1 &&& (3 : Int32)) = (2 : Int32)
          · refine own_st (S' := T149.setTop (mkF m 112 #[.val (.int p0), .val (.int p1), .val (.int p2), .val (.int p3), .val (.int (p0 &&& (3 : Int32))), .val (.ref eP), .val (.ref b147), .val (.int (p1 &&& (3 : Int32))), .unset, .unset, .unset] [(.int (p2 &&& (255 : Int32)))])) (fun _ k => XS.icmpNo X149.here hx rfl (hb hby at_104) rfl (teq hc171).2 (XS.iloadN X149.here hx rfl (hb hby at_107) rfl (XS.sipush X149.here hx rfl (hb hby at_108) (XS.iand X149.here hx rfl (hb hby at_111) rfl k)))) ?_
            refine own_st (S' := T149.setTop (mkF m 113 #[.val (.int p0), .val (.int p1), .val (.int p2), .val (.int p3), .val (.int (p0 &&& (3 : Int32))), .val (.ref eP), .val (.ref b147), .val (.int (p1 &&& (3 : Int32))), .unset, .unset, .unset] [(.int ((p2 &&& (255 : Int32)).toUInt32.toUInt16.toUInt32.toInt32))])) (fun _ k => XS.i2c X149.here hx rfl (hb hby at_112) rfl k) ?_
            have XE172 : Ext h0 h149 := (own_xw (own_xw E147 W148 (Nat.le_of_eq g147.symm)) W149 (Nat.le_of_eq g147.symm))
            have XO173 : Old Z n0 h149 := (XO.ext XE172)
            obtain ⟨_, _, ⟨T174, L174, k174, n174⟩, -, X174, ⟨Lc174, hQ174, l174, y174, z174⟩, st174⟩ := Jvm.LawKit.callS X149 hx (y := (⟨"java/lang/String", "valueOf", "(C)Ljava/lang/String;"⟩ : MethodName)) hown (mvT hZ (hw _ own_w58)) (mvT hZ (hw _ own_w59)) (mvT hZ (hw _ own_w3)) (mvT hZ (hw _ own_w60)) (by decide) (backOf (W := 0) (own_rm_vof l Z a0 hw G1 S1 P1 lA lT lS lB eP eD eF tN tT tP tQ tS tB B [] ((p2 &&& (255 : Int32)).toUInt32.toUInt16.toUInt32.toInt32) h149 n0 (Nat.le_trans Z0 (Nat.le_trans (Nat.le_trans E147.1 (Nat.le_of_eq W148.size.symm)) (Nat.le_of_eq W149.size.symm))) XO173 (own_c0 p2).1 (own_c0 p2).2) hZ (hw _ own_w60) (hw _ own_w3) (by decide) (by decide)) (g := (mkF m 113 #[.val (.int p0), .val (.int p1), .val (.int p2), .val (.int p3), .val (.int (p0 &&& (3 : Int32))), .val (.ref eP), .val (.ref b147), .val (.int (p1 &&& (3 : Int32))), .unset, .unset, .unset] [(.int ((p2 &&& (255 : Int32)).toUInt32.toUInt16.toUInt32.toInt32))])) rfl (by rw [hml]; rfl) (argsL := [(.int ((p2 &&& (255 : Int32)).toUInt32.toUInt16.toUInt32.toInt32))]) (rest := []) (lenOf own_pd5 rfl) rfl (by show 2 * 0 + _ ≤ _; exact Nat.le_of_eq rfl) (hb hby at_113) (fun _ _ => ⟨rfl, e149, (by decide : 1 + 2 ≤ _), (by decide : 2 + 5 ≤ _)⟩)
            dsimp only [Pt.U, Pt.locs, Pt.cells, Pt.slots] at X174 l174 y174 z174 st174 hQ174
            subst l174 y174 z174
            obtain ⟨r174, rfl, M174, E174, g174, Y174⟩ := hQ174
            have N174 := Fr.app N149 M174
            obtain ⟨h174, e174⟩ : ∃ z, T174.heap = z := ⟨_, rfl⟩
            rw [e174] at E174 Y174
            refine own_st (S' := T174.setTop (mkF m 116 #[.val (.int p0), .val (.int p1), .val (.int p2), .val (.int p3), .val (.int (p0 &&& (3 : Int32))), .val (.ref eP), .val (.ref b147), .val (.int (p1 &&& (3 : Int32))), .unset, .unset, .unset] [(.ref r174)])) st174 ?_
            refine own_st (S' := T174.setTop (mkF m 136 #[.val (.int p0), .val (.int p1), .val (.int p2), .val (.int p3), .val (.int (p0 &&& (3 : Int32))), .val (.ref eP), .val (.ref b147), .val (.int (p1 &&& (3 : Int32))), .val (.ref r174), .unset, .unset] [(.ref r174), (.ref eP)])) (fun _ k => XS.astore X174.here hx rfl (hb hby at_116) rfl rfl (l' := #[.val (.int p0), .val (.int p1), .val (.int p2), .val (.int p3), .val (.int (p0 &&& (3 : Int32))), .val (.ref eP), .val (.ref b147), .val (.int (p1 &&& (3 : Int32))), .val (.ref r174), .unset, .unset]) rfl (XS.goto X174.here hx rfl (pc0 := 118) (pc' := 132) rfl (hb hby at_118) (by decide) (by decide) (XS.aload X174.here hx rfl (hb hby at_132) rfl rfl (XS.aload X174.here hx rfl (hb hby at_134) rfl rfl k)))) ?_
            have XO175 : Old Z n0 h174 := (XO173.ext E174)
            obtain ⟨_, _, ⟨T176, L176, k176, n176⟩, -, X176, ⟨Lc176, hQ176, l176, y176, z176⟩, st176⟩ := Jvm.LawKit.callS X174 hx (y := (⟨"com/example/task_callbacks/taskcallbacks/event/Listing", "of", "(Lcom/example/task_callbacks/taskcallbacks/event/EventStatus;Ljava/lang/String;)Lcom/example/task_callbacks/taskcallbacks/event/Listing;"⟩ : MethodName)) hown (mvT hZ (hw _ own_w30)) (mvT hZ (hw _ own_w31)) (mvT hZ (hw _ own_w32)) (mvT hZ (hw _ own_w33)) (by decide) (backOf (W := 0) (own_rm_of11 l Z a0 hw G1 S1 P1 lA lT lS lB eP eD eF tN tT tP tQ tS tB B [] eP r174 h174 n0 (Nat.le_trans Z0 (Nat.le_trans (Nat.le_trans (Nat.le_trans E147.1 (Nat.le_of_eq W148.size.symm)) (Nat.le_of_eq W149.size.symm)) E174.1)) XO175 ) hZ (hw _ own_w33) (hw _ own_w32) (by decide) (by decide)) (g := (mkF m 136 #[.val (.int p0), .val (.int p1), .val (.int p2), .val (.int p3), .val (.int (p0 &&& (3 : Int32))), .val (.ref eP), .val (.ref b147), .val (.int (p1 &&& (3 : Int32))), .val (.ref r174), .unset, .unset] [(.ref r174), (.ref eP)])) rfl (by rw [hml]; rfl) (argsL := [(.ref eP), (.ref r174)]) (rest := []) (lenOf own_pd3 rfl) rfl (by show 2 * 0 + _ ≤ _; exact Nat.le_of_eq rfl) (hb hby at_136) (fun _ _ => ⟨rfl, e174, (by decide : 3 + 0 ≤ _), (by decide : 7 + 0 ≤ _)⟩)
            dsimp only [Pt.U, Pt.locs, Pt.cells, Pt.slots] at X176 l176 y176 z176 st176 hQ176
            subst l176 y176 z176
            obtain ⟨rfl, M176, e176⟩ := hQ176
            have N176 := Fr.app N174 M176
            refine own_st (S' := T176.setTop (mkF m 139 #[.val (.int p0), .val (.int p1), .val (.int p2), .val (.int p3), .val (.int (p0 &&& (3 : Int32))), .val (.ref eP), .val (.ref b147), .val (.int (p1 &&& (3 : Int32))), .val (.ref r174), .unset, .unset] [(.ref lB)])) st176 ?_
            refine own_st (S' := T176.setTop (mkF m 150 #[.val (.int p0), .val (.int p1), .val (.int p2), .val (.int p3), .val (.int (p0 &&& (3 : Int32))), .val (.ref eP), .val (.ref b147), .val (.int (p1 &&& (3 : Int32))), .val (.ref r174), .val (.ref lB), .unset] [(.ref eP)])) (fun _ k => XS.astore X176.here hx rfl (hb hby at_139) rfl rfl (l' := #[.val (.int p0), .val (.int p1), .val (.int p2), .val (.int p3), .val (.int (p0 &&& (3 : Int32))), .val (.ref eP), .val (.ref b147), .val (.int (p1 &&& (3 : Int32))), .val (.ref r174), .val (.ref lB), .unset]) rfl (XS.aload X176.here hx rfl (hb hby at_141) rfl rfl (XS.ifnonnullYes X176.here hx rfl (pc0 := 143) (pc' := 148) rfl (hb hby at_143) rfl (by decide) (by decide) (XS.aload X176.here hx rfl (hb hby at_148) rfl rfl k)))) ?_
            refine own_st (S' := T176.setTop (mkF m 174 #[.val (.int p0), .val (.int p1), .val (.int p2), .val (.int p3), .val (.int (p0 &&& (3 : Int32))), .val (.ref eP), .val (.ref b147), .val (.int (p1 &&& (3 : Int32))), .val (.ref r174), .val (.ref lB), .unset] [(.ref eP)])) (fun _ k => XS.ifnonnullYes X176.here hx rfl (pc0 := 150) (pc' := 172) rfl (hb hby at_150) rfl (by decide) (by decide) (XS.aload X176.here hx rfl (hb hby at_172) rfl rfl k)) ?_
            have S177 : Sta Z h174 "com/example/task_callbacks/taskcallbacks/event/EventStatus" "PENDING" "Lcom/example/task_callbacks/taskcallbacks/event/EventStatus;" (.ref eP) := (B4.ext XO175.2)
            obtain ⟨T178, X178, e178, st178⟩ := getS2 X176 hx hZ hown (host := "") (Or.inl (hw _ own_w53)) Via.refl e176 S177 (g := (mkF m 174 #[.val (.int p0), .val (.int p1), .val (.int p2), .val (.int p3), .val (.int (p0 &&& (3 : Int32))), .val (.ref eP), .val (.ref b147), .val (.int (p1 &&& (3 : Int32))), .val (.ref r174), .val (.ref lB), .unset] [(.ref eP)])) rfl (hb hby at_174)
            refine own_st (S' := T178.setTop (mkF m 177 #[.val (.int p0), .val (.int p1), .val (.int p2), .val (.int p3), .val (.int (p0 &&& (3 : Int32))), .val (.ref eP), .val (.ref b147), .val (.int (p1 &&& (3 : Int32))), .val (.ref r174), .val (.ref lB), .unset] [(.ref eP), (.ref eP)])) st178 ?_
            refine own_st (S' := T178.setTop (mkF m 180 #[.val (.int p0), .val (.int p1), .val (.int p2), .val (.int p3), .val (.int (p0 &&& (3 : Int32))), .val (.ref eP), .val (.ref b147), .val (.int (p1 &&& (3 : Int32))), .val (.ref r174), .val (.ref lB), .unset] [])) (fun _ k => Jvm.RoadKit.acmp (g := (mkF m 177 #[.val (.int p0), .val (.int p1), .val (.int p2), .val (.int p3), .val (.int (p0 &&& (3 : Int32))), .val (.ref eP), .val (.ref b147), .val (.int (p1 &&& (3 : Int32))), .val (.ref r174), .val (.ref lB), .unset] [(.ref eP), (.ref eP)])) X178 hx rfl rfl rfl (pc0 := 177) (pc' := 180) (same := true) rfl (hb hby at_177) rfl (decide_eq_true rfl) (by decide) (by decide) k) ?_
            refine own_st (S' := T178.setTop (mkF m 191 #[.val (.int p0), .val (.int p1), .val (.int p2), .val (.int p3), .val (.int (p0 &&& (3 : Int32))), .val (.ref eP), .val (.ref b147), .val (.int (p1 &&& (3 : Int32))), .val (.ref r174), .val (.ref lB), .unset] [])) (fun _ k => XS.aload X178.here hx rfl (hb hby at_180) rfl rfl (XS.ifnonnullYes X178.here hx rfl (pc0 := 182) (pc' := 191) rfl (hb hby at_182) rfl (by decide) (by decide) k)) ?_
            have S179 : Sta Z h174 "com/example/task_callbacks/taskcallbacks/store/Table" "PENDING_EVENTS_BY_TYPE" "Lcom/example/task_callbacks/taskcallbacks/store/Table;" (.ref tQ) := (B10.ext XO175.2)
            obtain ⟨T180, X180, e180, st180⟩ := getS2 X178 hx hZ hown (host := "") (Or.inl (hw _ own_w81)) Via.refl e178 S179 (g := (mkF m 191 #[.val (.int p0), .val (.int p1), .val (.int p2), .val (.int p3), .val (.int (p0 &&& (3 : Int32))), .val (.ref eP), .val (.ref b147), .val (.int (p1 &&& (3 : Int32))), .val (.ref r174), .val (.ref lB), .unset] [])) rfl (hb hby at_191)
            refine own_st (S' := T180.setTop (mkF m 194 #[.val (.int p0), .val (.int p1), .val (.int p2), .val (.int p3), .val (.int (p0 &&& (3 : Int32))), .val (.ref eP), .val (.ref b147), .val (.int (p1 &&& (3 : Int32))), .val (.ref r174), .val (.ref lB), .unset] [(.ref tQ)])) st180 ?_
            refine own_st (S' := T180.setTop (mkF m 219 #[.val (.int p0), .val (.int p1), .val (.int p2), .val (.int p3), .val (.int (p0 &&& (3 : Int32))), .val (.ref eP), .val (.ref b147), .val (.int (p1 &&& (3 : Int32))), .val (.ref r174), .val (.ref lB), .val (.ref tQ)] [(.ref eP), (.ref lB)])) (fun _ k => XS.astore X180.here hx rfl (hb hby at_194) rfl rfl (l' := #[.val (.int p0), .val (.int p1), .val (.int p2), .val (.int p3), .val (.int (p0 &&& (3 : Int32))), .val (.ref eP), .val (.ref b147), .val (.int (p1 &&& (3 : Int32))), .val (.ref r174), .val (.ref lB), .val (.ref tQ)]) rfl (XS.goto X180.here hx rfl (pc0 := 196) (pc' := 215) rfl (hb hby at_196) (by decide) (by decide) (XS.aload X180.here hx rfl (hb hby at_215) rfl rfl (XS.aload X180.here hx rfl (hb hby at_217) rfl rfl k)))) ?_
            have A182 : Exa Z h174 lB "com/example/task_callbacks/taskcallbacks/event/Listing" := (B16.ext XO175.2)
            obtain ⟨cq181, kq181, q181a, q181b, q181c⟩ := isOf hZ e180 A182
            obtain ⟨_, _, ⟨T181, L181, k181, n181⟩, -, X181, ⟨Lc181, hQ181, l181, y181, z181⟩, st181⟩ := X180.virtualBack hx (y := (⟨"com/example/task_callbacks/taskcallbacks/event/Listing", "table", "(Lcom/example/task_callbacks/taskcallbacks/event/EventStatus;)Lcom/example/task_callbacks/taskcallbacks/store/Table;"⟩ : MethodName)) (z := (⟨"com/example/task_callbacks/taskcallbacks/event/Listing", "table", "(Lcom/example/task_callbacks/taskcallbacks/event/EventStatus;)Lcom/example/task_callbacks/taskcallbacks/store/Table;"⟩ : MethodName)) hown (mvT hZ (hw _ own_w39)) (mvT hZ (hw _ own_w40)) (notFace_of_selects (args := #[]) (mvT hZ (hw _ own_w42))) (mvT hZ (hw _ own_w42)) (mvT hZ (hw _ own_w41)) (by decide) (backOf (W := 0) (own_rm_ta_eP l Z a0 hw G1 S1 P1 lA lT lS lB eP eD eF tN tT tP tQ tS tB B [] lB tQ h174 n0 (Nat.le_trans Z0 (Nat.le_trans (Nat.le_trans (Nat.le_trans E147.1 (Nat.le_of_eq W148.size.symm)) (Nat.le_of_eq W149.size.symm)) E174.1)) XO175 B24) hZ (hw _ own_w43) (hw _ own_w32) (by decide) (by decide)) q181a q181c (g := (mkF m 219 #[.val (.int p0), .val (.int p1), .val (.int p2), .val (.int p3), .val (.int (p0 &&& (3 : Int32))), .val (.ref eP), .val (.ref b147), .val (.int (p1 &&& (3 : Int32))), .val (.ref r174), .val (.ref lB), .val (.ref tQ)] [(.ref eP), (.ref lB)])) rfl (by rw [hml]; rfl) (Steps.refl _) (argsL := [(.ref eP)]) (rest := []) (lenOf own_pd4 rfl) rfl (by show 2 * 0 + _ ≤ _; exact Nat.le_of_eq rfl) (hb hby at_219) (fun _ _ => ⟨rfl, e180, (by decide : 3 + 0 ≤ _), (by decide : 7 + 0 ≤ _)⟩)
            dsimp only [Pt.U, Pt.locs, Pt.cells, Pt.slots] at X181 l181 y181 z181 st181 hQ181
            subst l181 y181 z181
            obtain ⟨rfl, M181, e181⟩ := hQ181
            have N181 := Fr.app N176 M181
            refine own_tr (S' := T181.setTop (mkF m 222 #[.val (.int p0), .val (.int p1), .val (.int p2), .val (.int p3), .val (.int (p0 &&& (3 : Int32))), .val (.ref eP), .val (.ref b147), .val (.int (p1 &&& (3 : Int32))), .val (.ref r174), .val (.ref lB), .val (.ref tQ)] [(.ref tQ)])) st181 ?_
            refine own_st (S' := T181.setTop (mkF m 224 #[.val (.int p0), .val (.int p1), .val (.int p2), .val (.int p3), .val (.int (p0 &&& (3 : Int32))), .val (.ref eP), .val (.ref b147), .val (.int (p1 &&& (3 : Int32))), .val (.ref r174), .val (.ref lB), .val (.ref tQ)] [(.ref tQ), (.ref tQ)])) (fun _ k => XS.aload X181.here hx rfl (hb hby at_222) rfl rfl k) ?_
            refine own_st (S' := T181.setTop (mkF m 227 #[.val (.int p0), .val (.int p1), .val (.int p2), .val (.int p3), .val (.int (p0 &&& (3 : Int32))), .val (.ref eP), .val (.ref b147), .val (.int (p1 &&& (3 : Int32))), .val (.ref r174), .val (.ref lB), .val (.ref tQ)] [])) (fun _ k => Jvm.RoadKit.acmp (g := (mkF m 224 #[.val (.int p0), .val (.int p1), .val (.int p2), .val (.int p3), .val (.int (p0 &&& (3 : Int32))), .val (.ref eP), .val (.ref b147), .val (.int (p1 &&& (3 : Int32))), .val (.ref r174), .val (.ref lB), .val (.ref tQ)] [(.ref tQ), (.ref tQ)])) X181 hx rfl rfl rfl (pc0 := 224) (pc' := 227) (same := true) rfl (hb hby at_224) rfl (decide_eq_true rfl) (by decide) (by decide) k) ?_
            refine own_st (S' := T181.setTop (mkF m 232 #[.val (.int p0), .val (.int p1), .val (.int p2), .val (.int p3), .val (.int (p0 &&& (3 : Int32))), .val (.ref eP), .val (.ref b147), .val (.int (p1 &&& (3 : Int32))), .val (.ref r174), .val (.ref lB), .val (.ref tQ)] [(.int (1 : Int32))])) (fun _ k => XS.iconst X181.here hx rfl (hb hby at_227) (XS.goto X181.here hx rfl (pc0 := 228) (pc' := 232) rfl (hb hby at_228) (by decide) (by decide) k)) ?_
            refine own_retNW X181 hx Bd.returns hlk rfl (Or.inl ⟨rfl, (by simp), _, rfl⟩) (hb hby at_232) (by decide) (by decide) ?_
            rw [e181]
            exact ⟨rfl, N181⟩
          · refine own_st (S' := T149.setTop (mkF m 121 #[.val (.int p0), .val (.int p1), .val (.int p2), .val (.int p3), .val (.int (p0 &&& (3 : Int32))), .val (.ref eP), .val (.ref b147), .val (.int (p1 &&& (3 : Int32))), .unset, .unset, .unset] [])) (fun _ k => XS.icmpYes X149.here hx rfl (pc0 := 104) (pc' := 121) rfl (hb hby at_104) rfl (feq hc171).2 (by decide) (by decide) k) ?_
            obtain ⟨T183, h183, X183, e183, E183, A183, D183, -, st183⟩ := newO X149 hx hZ hown (hw _ own_w1) (hw _ own_w2) (hw _ own_w3) e149 (g := (mkF m 121 #[.val (.int p0), .val (.int p1), .val (.int p2), .val (.int p3), .val (.int (p0 &&& (3 : Int32))), .val (.ref eP), .val (.ref b147), .val (.int (p1 &&& (3 : Int32))), .unset, .unset, .unset] [])) rfl (hb hby at_121) (by decide) (by decide)
            obtain ⟨b183, g183⟩ : ∃ z, z = h149.size := ⟨_, rfl⟩
            rw [← g183] at A183 D183 st183
            refine own_st (S' := T183.setTop (mkF m 124 #[.val (.int p0), .val (.int p1), .val (.int p2), .val (.int p3), .val (.int (p0 &&& (3 : Int32))), .val (.ref eP), .val (.ref b147), .val (.int (p1 &&& (3 : Int32))), .unset, .unset, .unset] [(.ref b183)])) st183 ?_
            refine own_st (S' := T183.setTop (mkF m 127 #[.val (.int p0), .val (.int p1), .val (.int p2), .val (.int p3), .val (.int (p0 &&& (3 : Int32))), .val (.ref eP), .val (.ref b147), .val (.int (p1 &&& (3 : Int32))), .unset, .unset, .unset] [(.ref b147), (.ref b183), (.ref b183)])) (fun _ k => XS.dup X183.here hx rfl (hb hby at_124) rfl rfl (XS.aload X183.here hx rfl (hb hby at_125) rfl rfl k)) ?_
            have V184 : Arv Z h183 b147 k147 .char (2 : Int32) [(.int (nar .char ((p2 &&& (255 : Int32)).toUInt32.toUInt16.toUInt32.toInt32))), (.int (nar .char ((p3 &&& (255 : Int32)).toUInt32.toUInt16.toUInt32.toInt32)))] (.int (0 : Int32)) := (V149.ext E183)
            have XE185 : Ext h0 h183 := (own_xt (own_xw (own_xw E147 W148 (Nat.le_of_eq g147.symm)) W149 (Nat.le_of_eq g147.symm)) E183)
            have XO186 : Old Z n0 h183 := (XO.ext XE185)
            have S187 : Sta Z h183 "java/lang/String" "COMPACT_STRINGS" "Z" (.int G1) := (S1.ext XO186.2)
            obtain ⟨_, _, ⟨T188, L188, k188, n188⟩, -, X188, ⟨Lc188, hQ188, l188, y188, z188⟩, st188⟩ := X183.specialBack hx (y := (⟨"java/lang/String", "<init>", "([C)V"⟩ : MethodName)) rfl hown (mvT hZ (hw _ own_w4)) (mvT hZ (hw _ own_w5)) (mvT hZ (hw _ own_w6)) (by decide) (own_newB (W := 1) hZ hw (cs := [nar .char ((p2 &&& (255 : Int32)).toUInt32.toUInt16.toUInt32.toInt32), nar .char ((p3 &&& (255 : Int32)).toUInt32.toUInt16.toUInt32.toInt32)]) (n := 2) (n0 := n0) (Nat.le_trans Z0 (Nat.le_trans (Nat.le_trans (Nat.le_trans E147.1 (Nat.le_of_eq W148.size.symm)) (Nat.le_of_eq W149.size.symm)) (Nat.le_of_eq g183.symm))) (Nat.le_trans Z0 (Nat.le_trans (Nat.le_trans (Nat.le_trans E147.1 (Nat.le_of_eq W148.size.symm)) (Nat.le_of_eq W149.size.symm)) E183.1)) A183 (D183 (Or.inr (hw _ own_w29)) (ty := (.array .byte)) (by decide)) (D183 (Or.inr (hw _ own_w27)) (ty := .byte) (by decide)) V184 S187 P1 rfl rfl (by decide) (by decide) (own_hp2 p2 p3) (by decide) (by decide)) (g := (mkF m 127 #[.val (.int p0), .val (.int p1), .val (.int p2), .val (.int p3), .val (.int (p0 &&& (3 : Int32))), .val (.ref eP), .val (.ref b147), .val (.int (p1 &&& (3 : Int32))), .unset, .unset, .unset] [(.ref b147), (.ref b183), (.ref b183)])) rfl (by rw [hml]; rfl) (Steps.refl _) (a := b183) (argsL := [(.ref b147)]) (rest := [(.ref b183)]) (lenOf own_pd6 rfl) rfl (by show 2 * 0 + _ ≤ _; exact Nat.le_of_eq rfl) (hb hby at_127) (fun _ _ => ⟨rfl, e183, (by decide : 2 + 1 ≤ _), (by decide : 6 + 2 ≤ _)⟩)
            dsimp only [Pt.U, Pt.locs, Pt.cells, Pt.slots] at X188 l188 y188 z188 st188 hQ188
            subst l188 y188 z188
            obtain ⟨rfl, M188, K188, Y188⟩ := hQ188
            have N188 := Fr.app N149 M188
            obtain ⟨h188, e188⟩ : ∃ z, T188.heap = z := ⟨_, rfl⟩
            rw [e188] at K188 Y188
            refine own_tr (S' := T188.setTop (mkF m 130 #[.val (.int p0), .val (.int p1), .val (.int p2), .val (.int p3), .val (.int (p0 &&& (3 : Int32))), .val (.ref eP), .val (.ref b147), .val (.int (p1 &&& (3 : Int32))), .unset, .unset, .unset] [(.ref b183)])) st188 ?_
            refine own_st (S' := T188.setTop (mkF m 136 #[.val (.int p0), .val (.int p1), .val (.int p2), .val (.int p3), .val (.int (p0 &&& (3 : Int32))), .val (.ref eP), .val (.ref b147), .val (.int (p1 &&& (3 : Int32))), .val (.ref b183), .unset, .unset] [(.ref b183), (.ref eP)])) (fun _ k => XS.astore X188.here hx rfl (hb hby at_130) rfl rfl (l' := #[.val (.int p0), .val (.int p1), .val (.int p2), .val (.int p3), .val (.int (p0 &&& (3 : Int32))), .val (.ref eP), .val (.ref b147), .val (.int (p1 &&& (3 : Int32))), .val (.ref b183), .unset, .unset]) rfl (XS.aload X188.here hx rfl (hb hby at_132) rfl rfl (XS.aload X188.here hx rfl (hb hby at_134) rfl rfl k))) ?_
            have XO189 : Old Z n0 h188 := (XO186.keep K188 (allS (Nat.le_trans Z0 (Nat.le_trans (Nat.le_trans (Nat.le_trans E147.1 (Nat.le_of_eq W148.size.symm)) (Nat.le_of_eq W149.size.symm)) (Nat.le_of_eq g183.symm))) all0))
            obtain ⟨_, _, ⟨T190, L190, k190, n190⟩, -, X190, ⟨Lc190, hQ190, l190, y190, z190⟩, st190⟩ := Jvm.LawKit.callS X188 hx (y := (⟨"com/example/task_callbacks/taskcallbacks/event/Listing", "of", "(Lcom/example/task_callbacks/taskcallbacks/event/EventStatus;Ljava/lang/String;)Lcom/example/task_callbacks/taskcallbacks/event/Listing;"⟩ : MethodName)) hown (mvT hZ (hw _ own_w30)) (mvT hZ (hw _ own_w31)) (mvT hZ (hw _ own_w32)) (mvT hZ (hw _ own_w33)) (by decide) (backOf (W := 0) (own_rm_of11 l Z a0 hw G1 S1 P1 lA lT lS lB eP eD eF tN tT tP tQ tS tB B [] eP b183 h188 n0 (Nat.le_trans Z0 (Nat.le_trans (Nat.le_trans (Nat.le_trans (Nat.le_trans E147.1 (Nat.le_of_eq W148.size.symm)) (Nat.le_of_eq W149.size.symm)) E183.1) K188.1)) XO189 ) hZ (hw _ own_w33) (hw _ own_w32) (by decide) (by decide)) (g := (mkF m 136 #[.val (.int p0), .val (.int p1), .val (.int p2), .val (.int p3), .val (.int (p0 &&& (3 : Int32))), .val (.ref eP), .val (.ref b147), .val (.int (p1 &&& (3 : Int32))), .val (.ref b183), .unset, .unset] [(.ref b183), (.ref eP)])) rfl (by rw [hml]; rfl) (argsL := [(.ref eP), (.ref b183)]) (rest := []) (lenOf own_pd3 rfl) rfl (by show 2 * 0 + _ ≤ _; exact Nat.le_of_eq rfl) (hb hby at_136) (fun _ _ => ⟨rfl, e188, (by decide : 3 + 0 ≤ _), (by decide : 8 + 0 ≤ _)⟩)
            dsimp only [Pt.U, Pt.locs, Pt.cells, Pt.slots] at X190 l190 y190 z190 st190 hQ190
            subst l190 y190 z190
            obtain ⟨rfl, M190, e190⟩ := hQ190
            have N190 := Fr.app N188 M190
            refine own_st (S' := T190.setTop (mkF m 139 #[.val (.int p0), .val (.int p1), .val (.int p2), .val (.int p3), .val (.int (p0 &&& (3 : Int32))), .val (.ref eP), .val (.ref b147), .val (.int (p1 &&& (3 : Int32))), .val (.ref b183), .unset, .unset] [(.ref lB)])) st190 ?_
            refine own_st (S' := T190.setTop (mkF m 150 #[.val (.int p0), .val (.int p1), .val (.int p2), .val (.int p3), .val (.int (p0 &&& (3 : Int32))), .val (.ref eP), .val (.ref b147), .val (.int (p1 &&& (3 : Int32))), .val (.ref b183), .val (.ref lB), .unset] [(.ref eP)])) (fun _ k => XS.astore X190.here hx rfl (hb hby at_139) rfl rfl (l' := #[.val (.int p0), .val (.int p1), .val (.int p2), .val (.int p3), .val (.int (p0 &&& (3 : Int32))), .val (.ref eP), .val (.ref b147), .val (.int (p1 &&& (3 : Int32))), .val (.ref b183), .val (.ref lB), .unset]) rfl (XS.aload X190.here hx rfl (hb hby at_141) rfl rfl (XS.ifnonnullYes X190.here hx rfl (pc0 := 143) (pc' := 148) rfl (hb hby at_143) rfl (by decide) (by decide) (XS.aload X190.here hx rfl (hb hby at_148) rfl rfl k)))) ?_
            refine own_st (S' := T190.setTop (mkF m 174 #[.val (.int p0), .val (.int p1), .val (.int p2), .val (.int p3), .val (.int (p0 &&& (3 : Int32))), .val (.ref eP), .val (.ref b147), .val (.int (p1 &&& (3 : Int32))), .val (.ref b183), .val (.ref lB), .unset] [(.ref eP)])) (fun _ k => XS.ifnonnullYes X190.here hx rfl (pc0 := 150) (pc' := 172) rfl (hb hby at_150) rfl (by decide) (by decide) (XS.aload X190.here hx rfl (hb hby at_172) rfl rfl k)) ?_
            have S191 : Sta Z h188 "com/example/task_callbacks/taskcallbacks/event/EventStatus" "PENDING" "Lcom/example/task_callbacks/taskcallbacks/event/EventStatus;" (.ref eP) := (B4.ext XO189.2)
            obtain ⟨T192, X192, e192, st192⟩ := getS2 X190 hx hZ hown (host := "") (Or.inl (hw _ own_w53)) Via.refl e190 S191 (g := (mkF m 174 #[.val (.int p0), .val (.int p1), .val (.int p2), .val (.int p3), .val (.int (p0 &&& (3 : Int32))), .val (.ref eP), .val (.ref b147), .val (.int (p1 &&& (3 : Int32))), .val (.ref b183), .val (.ref lB), .unset] [(.ref eP)])) rfl (hb hby at_174)
            refine own_st (S' := T192.setTop (mkF m 177 #[.val (.int p0), .val (.int p1), .val (.int p2), .val (.int p3), .val (.int (p0 &&& (3 : Int32))), .val (.ref eP), .val (.ref b147), .val (.int (p1 &&& (3 : Int32))), .val (.ref b183), .val (.ref lB), .unset] [(.ref eP), (.ref eP)])) st192 ?_
            refine own_st (S' := T192.setTop (mkF m 180 #[.val (.int p0), .val (.int p1), .val (.int p2), .val (.int p3), .val (.int (p0 &&& (3 : Int32))), .val (.ref eP), .val (.ref b147), .val (.int (p1 &&& (3 : Int32))), .val (.ref b183), .val (.ref lB), .unset] [])) (fun _ k => Jvm.RoadKit.acmp (g := (mkF m 177 #[.val (.int p0), .val (.int p1), .val (.int p2), .val (.int p3), .val (.int (p0 &&& (3 : Int32))), .val (.ref eP), .val (.ref b147), .val (.int (p1 &&& (3 : Int32))), .val (.ref b183), .val (.ref lB), .unset] [(.ref eP), (.ref eP)])) X192 hx rfl rfl rfl (pc0 := 177) (pc' := 180) (same := true) rfl (hb hby at_177) rfl (decide_eq_true rfl) (by decide) (by decide) k) ?_
            refine own_st (S' := T192.setTop (mkF m 191 #[.val (.int p0), .val (.int p1), .val (.int p2), .val (.int p3), .val (.int (p0 &&& (3 : Int32))), .val (.ref eP), .val (.ref b147), .val (.int (p1 &&& (3 : Int32))), .val (.ref b183), .val (.ref lB), .unset] [])) (fun _ k => XS.aload X192.here hx rfl (hb hby at_180) rfl rfl (XS.ifnonnullYes X192.here hx rfl (pc0 := 182) (pc' := 191) rfl (hb hby at_182) rfl (by decide) (by decide) k)) ?_
            have S193 : Sta Z h188 "com/example/task_callbacks/taskcallbacks/store/Table" "PENDING_EVENTS_BY_TYPE" "Lcom/example/task_callbacks/taskcallbacks/store/Table;" (.ref tQ) := (B10.ext XO189.2)
            obtain ⟨T194, X194, e194, st194⟩ := getS2 X192 hx hZ hown (host := "") (Or.inl (hw _ own_w81)) Via.refl e192 S193 (g := (mkF m 191 #[.val (.int p0), .val (.int p1), .val (.int p2), .val (.int p3), .val (.int (p0 &&& (3 : Int32))), .val (.ref eP), .val (.ref b147), .val (.int (p1 &&& (3 : Int32))), .val (.ref b183), .val (.ref lB), .unset] [])) rfl (hb hby at_191)
            refine own_st (S' := T194.setTop (mkF m 194 #[.val (.int p0), .val (.int p1), .val (.int p2), .val (.int p3), .val (.int (p0 &&& (3 : Int32))), .val (.ref eP), .val (.ref b147), .val (.int (p1 &&& (3 : Int32))), .val (.ref b183), .val (.ref lB), .unset] [(.ref tQ)])) st194 ?_
            refine own_st (S' := T194.setTop (mkF m 219 #[.val (.int p0), .val (.int p1), .val (.int p2), .val (.int p3), .val (.int (p0 &&& (3 : Int32))), .val (.ref eP), .val (.ref b147), .val (.int (p1 &&& (3 : Int32))), .val (.ref b183), .val (.ref lB), .val (.ref tQ)] [(.ref eP), (.ref lB)])) (fun _ k => XS.astore X194.here hx rfl (hb hby at_194) rfl rfl (l' := #[.val (.int p0), .val (.int p1), .val (.int p2), .val (.int p3), .val (.int (p0 &&& (3 : Int32))), .val (.ref eP), .val (.ref b147), .val (.int (p1 &&& (3 : Int32))), .val (.ref b183), .val (.ref lB), .val (.ref tQ)]) rfl (XS.goto X194.here hx rfl (pc0 := 196) (pc' := 215) rfl (hb hby at_196) (by decide) (by decide) (XS.aload X194.here hx rfl (hb hby at_215) rfl rfl (XS.aload X194.here hx rfl (hb hby at_217) rfl rfl k)))) ?_
            have A196 : Exa Z h188 lB "com/example/task_callbacks/taskcallbacks/event/Listing" := (B16.ext XO189.2)
            obtain ⟨cq195, kq195, q195a, q195b, q195c⟩ := isOf hZ e194 A196
            obtain ⟨_, _, ⟨T195, L195, k195, n195⟩, -, X195, ⟨Lc195, hQ195, l195, y195, z195⟩, st195⟩ := X194.virtualBack hx (y := (⟨"com/example/task_callbacks/taskcallbacks/event/Listing", "table", "(Lcom/example/task_callbacks/taskcallbacks/event/EventStatus;)Lcom/example/task_callbacks/taskcallbacks/store/Table;"⟩ : MethodName)) (z := (⟨"com/example/task_callbacks/taskcallbacks/event/Listing", "table", "(Lcom/example/task_callbacks/taskcallbacks/event/EventStatus;)Lcom/example/task_callbacks/taskcallbacks/store/Table;"⟩ : MethodName)) hown (mvT hZ (hw _ own_w39)) (mvT hZ (hw _ own_w40)) (notFace_of_selects (args := #[]) (mvT hZ (hw _ own_w42))) (mvT hZ (hw _ own_w42)) (mvT hZ (hw _ own_w41)) (by decide) (backOf (W := 0) (own_rm_ta_eP l Z a0 hw G1 S1 P1 lA lT lS lB eP eD eF tN tT tP tQ tS tB B [] lB tQ h188 n0 (Nat.le_trans Z0 (Nat.le_trans (Nat.le_trans (Nat.le_trans (Nat.le_trans E147.1 (Nat.le_of_eq W148.size.symm)) (Nat.le_of_eq W149.size.symm)) E183.1) K188.1)) XO189 B24) hZ (hw _ own_w43) (hw _ own_w32) (by decide) (by decide)) q195a q195c (g := (mkF m 219 #[.val (.int p0), .val (.int p1), .val (.int p2), .val (.int p3), .val (.int (p0 &&& (3 : Int32))), .val (.ref eP), .val (.ref b147), .val (.int (p1 &&& (3 : Int32))), .val (.ref b183), .val (.ref lB), .val (.ref tQ)] [(.ref eP), (.ref lB)])) rfl (by rw [hml]; rfl) (Steps.refl _) (argsL := [(.ref eP)]) (rest := []) (lenOf own_pd4 rfl) rfl (by show 2 * 0 + _ ≤ _; exact Nat.le_of_eq rfl) (hb hby at_219) (fun _ _ => ⟨rfl, e194, (by decide : 3 + 0 ≤ _), (by decide : 8 + 0 ≤ _)⟩)
            dsimp only [Pt.U, Pt.locs, Pt.cells, Pt.slots] at X195 l195 y195 z195 st195 hQ195
            subst l195 y195 z195
            obtain ⟨rfl, M195, e195⟩ := hQ195
            have N195 := Fr.app N190 M195
            refine own_tr (S' := T195.setTop (mkF m 222 #[.val (.int p0), .val (.int p1), .val (.int p2), .val (.int p3), .val (.int (p0 &&& (3 : Int32))), .val (.ref eP), .val (.ref b147), .val (.int (p1 &&& (3 : Int32))), .val (.ref b183), .val (.ref lB), .val (.ref tQ)] [(.ref tQ)])) st195 ?_
            refine own_st (S' := T195.setTop (mkF m 224 #[.val (.int p0), .val (.int p1), .val (.int p2), .val (.int p3), .val (.int (p0 &&& (3 : Int32))), .val (.ref eP), .val (.ref b147), .val (.int (p1 &&& (3 : Int32))), .val (.ref b183), .val (.ref lB), .val (.ref tQ)] [(.ref tQ), (.ref tQ)])) (fun _ k => XS.aload X195.here hx rfl (hb hby at_222) rfl rfl k) ?_
            refine own_st (S' := T195.setTop (mkF m 227 #[.val (.int p0), .val (.int p1), .val (.int p2), .val (.int p3), .val (.int (p0 &&& (3 : Int32))), .val (.ref eP), .val (.ref b147), .val (.int (p1 &&& (3 : Int32))), .val (.ref b183), .val (.ref lB), .val (.ref tQ)] [])) (fun _ k => Jvm.RoadKit.acmp (g := (mkF m 224 #[.val (.int p0), .val (.int p1), .val (.int p2), .val (.int p3), .val (.int (p0 &&& (3 : Int32))), .val (.ref eP), .val (.ref b147), .val (.int (p1 &&& (3 : Int32))), .val (.ref b183), .val (.ref lB), .val (.ref tQ)] [(.ref tQ), (.ref tQ)])) X195 hx rfl rfl rfl (pc0 := 224) (pc' := 227) (same := true) rfl (hb hby at_224) rfl (decide_eq_true rfl) (by decide) (by decide) k) ?_
            refine own_st (S' := T195.setTop (mkF m 232 #[.val (.int p0), .val (.int p1), .val (.int p2), .val (.int p3), .val (.int (p0 &&& (3 : Int32))), .val (.ref eP), .val (.ref b147), .val (.int (p1 &&& (3 : Int32))), .val (.ref b183), .val (.ref lB), .val (.ref tQ)] [(.int (1 : Int32))])) (fun _ k => XS.iconst X195.here hx rfl (hb hby at_227) (XS.goto X195.here hx rfl (pc0 := 228) (pc' := 232) rfl (hb hby at_228) (by decide) (by decide) k)) ?_
            refine own_retNW X195 hx Bd.returns hlk rfl (Or.inl ⟨rfl, (by simp), _, rfl⟩) (hb hby at_232) (by decide) (by decide) ?_
            rw [e195]
            exact ⟨rfl, N195⟩
    · refine own_st (S' := s₁.setTop (mkF m 33 #[.val (.int p0), .val (.int p1), .val (.int p2), .val (.int p3), .val (.int (p0 &&& (3 : Int32))), .unset, .unset, .unset, .unset, .unset, .unset] [(.int (2 : Int32)), (.int (p0 &&& (3 : Int32)))])) (fun _ k => XS.icmpYes X0.here hx rfl (pc0 := 19) (pc' := 30) rfl (hb hby at_19) rfl (feq hc144).2 (by decide) (by decide) (XS.iload X0.here hx rfl (hb hby at_30) rfl (XS.iconst X0.here hx rfl (hb hby at_32) k))) ?_
      by_cases hc197 : (p0 &&& (3 : Int32)) = (2 : Int32)
      · refine own_st (S' := s₁.setTop (mkF m 36 #[.val (.int p0), .val (.int p1), .val (.int p2), .val (.int p3), .val (.int (p0 &&& (3 : Int32))), .unset, .unset, .unset, .unset, .unset, .unset] [])) (fun _ k => XS.icmpNo X0.here hx rfl (hb hby at_33) rfl (teq hc197).2 k) ?_
        have S198 : Sta Z h0 "com/example/task_callbacks/taskcallbacks/event/EventStatus" "DELIVERED" "Lcom/example/task_callbacks/taskcallbacks/event/EventStatus;" (.ref eD) := (B5.ext XO.2)
        obtain ⟨T199, X199, e199, st199⟩ := getS2 X0 hx hZ hown (host := "") (Or.inl (hw _ own_w56)) Via.refl e0 S198 (g := (mkF m 36 #[.val (.int p0), .val (.int p1), .val (.int p2), .val (.int p3), .val (.int (p0 &&& (3 : Int32))), .unset, .unset, .unset, .unset, .unset, .unset] [])) rfl (hb hby at_36)
        refine own_st (S' := T199.setTop (mkF m 39 #[.val (.int p0), .val (.int p1), .val (.int p2), .val (.int p3), .val (.int (p0 &&& (3 : Int32))), .unset, .unset, .unset, .unset, .unset, .unset] [(.ref eD)])) st199 ?_
        refine own_st (S' := T199.setTop (mkF m 50 #[.val (.int p0), .val (.int p1), .val (.int p2), .val (.int p3), .val (.int (p0 &&& (3 : Int32))), .val (.ref eD), .unset, .unset, .unset, .unset, .unset] [(.int (2 : Int32))])) (fun _ k => XS.astore X199.here hx rfl (hb hby at_39) rfl rfl (l' := #[.val (.int p0), .val (.int p1), .val (.int p2), .val (.int p3), .val (.int (p0 &&& (3 : Int32))), .val (.ref eD), .unset, .unset, .unset, .unset, .unset]) rfl (XS.goto X199.here hx rfl (pc0 := 41) (pc' := 49) rfl (hb hby at_41) (by decide) (by decide) (XS.iconst X199.here hx rfl (hb hby at_49) k))) ?_
        obtain ⟨T200, h200, k200, X200, e200, E200, A200, AE200, st200⟩ := newPE X199 hx hZ (aty := .char) (hw _ own_w0) e199 (g := (mkF m 50 #[.val (.int p0), .val (.int p1), .val (.int p2), .val (.int p3), .val (.int (p0 &&& (3 : Int32))), .val (.ref eD), .unset, .unset, .unset, .unset, .unset] [(.int (2 : Int32))])) rfl (hb hby at_50) rfl (by decide) (cap := 2) (by decide) (by decide) (by decide) (by decide) (ad := "[C") (by decide)
        obtain ⟨b200, g200⟩ : ∃ z, z = h0.size := ⟨_, rfl⟩
        rw [← g200] at A200 AE200 st200
        have V200 : Arv Z h200 b200 k200 .char (2 : Int32) [(.int (0 : Int32)), (.int (0 : Int32))] (.int (0 : Int32)) := (Arv.new A200 (by decide)).pad (pad_rep [] (.int (0 : Int32)) 2)
        refine own_st (S' := T200.setTop (mkF m 52 #[.val (.int p0), .val (.int p1), .val (.int p2), .val (.int p3), .val (.int (p0 &&& (3 : Int32))), .val (.ref eD), .unset, .unset, .unset, .unset, .unset] [(.ref b200)])) st200 ?_
        refine own_st (S' := T200.setTop (mkF m 58 #[.val (.int p0), .val (.int p1), .val (.int p2), .val (.int p3), .val (.int (p0 &&& (3 : Int32))), .val (.ref eD), .unset, .unset, .unset, .unset, .unset] [(.int (255 : Int32)), (.int p2), (.int (0 : Int32)), (.ref b200), (.ref b200)])) (fun _ k => XS.dup X200.here hx rfl (hb hby at_52) rfl rfl (XS.iconst X200.here hx rfl (hb hby at_53) (XS.iloadN X200.here hx rfl (hb hby at_54) rfl (XS.sipush X200.here hx rfl (hb hby at_55) k)))) ?_
        refine own_st (S' := T200.setTop (mkF m 60 #[.val (.int p0), .val (.int p1), .val (.int p2), .val (.int p3), .val (.int (p0 &&& (3 : Int32))), .val (.ref eD), .unset, .unset, .unset, .unset, .unset] [(.int ((p2 &&& (255 : Int32)).toUInt32.toUInt16.toUInt32.toInt32)), (.int (0 : Int32)), (.ref b200), (.ref b200)])) (fun _ k => XS.iand X200.here hx rfl (hb hby at_58) rfl (XS.i2c X200.here hx rfl (hb hby at_59) rfl k)) ?_
        obtain ⟨c201, A201, q201, S201, M201, H201, U201⟩ := id V200
        obtain ⟨T201, h201, X201, e201, W201, st201⟩ := stC X200 hx hZ e200 A201 (j := (0 : Int32)) (inb_of S201 ⟨by decide, by decide⟩) (g := (mkF m 60 #[.val (.int p0), .val (.int p1), .val (.int p2), .val (.int p3), .val (.int (p0 &&& (3 : Int32))), .val (.ref eD), .unset, .unset, .unset, .unset, .unset] [(.int ((p2 &&& (255 : Int32)).toUInt32.toUInt16.toUInt32.toInt32)), (.int (0 : Int32)), (.ref b200), (.ref b200)])) rfl rfl (hb hby at_60)
        have N201 := Fr.snoc X201 N0 (Nat.le_trans Z0 (Nat.le_of_eq g200.symm))
        have V201 : Arv Z h201 b200 k200 .char (2 : Int32) [(.int (nar .char ((p2 &&& (255 : Int32)).toUInt32.toUInt16.toUInt32.toInt32))), (.int (0 : Int32))] (.int (0 : Int32)) := Arv.set A201 q201 S201 M201 H201 U201 (fits_nar_char _) W201 0 rfl (Nat.le_of_ble_eq_true rfl)
        refine own_st (S' := T201.setTop (mkF m 61 #[.val (.int p0), .val (.int p1), .val (.int p2), .val (.int p3), .val (.int (p0 &&& (3 : Int32))), .val (.ref eD), .unset, .unset, .unset, .unset, .unset] [(.ref b200)])) st201 ?_
        refine own_st (S' := T201.setTop (mkF m 67 #[.val (.int p0), .val (.int p1), .val (.int p2), .val (.int p3), .val (.int (p0 &&& (3 : Int32))), .val (.ref eD), .unset, .unset, .unset, .unset, .unset] [(.int (255 : Int32)), (.int p3), (.int (1 : Int32)), (.ref b200), (.ref b200)])) (fun _ k => XS.dup X201.here hx rfl (hb hby at_61) rfl rfl (XS.iconst X201.here hx rfl (hb hby at_62) (XS.iloadN X201.here hx rfl (hb hby at_63) rfl (XS.sipush X201.here hx rfl (hb hby at_64) k)))) ?_
        refine own_st (S' := T201.setTop (mkF m 69 #[.val (.int p0), .val (.int p1), .val (.int p2), .val (.int p3), .val (.int (p0 &&& (3 : Int32))), .val (.ref eD), .unset, .unset, .unset, .unset, .unset] [(.int ((p3 &&& (255 : Int32)).toUInt32.toUInt16.toUInt32.toInt32)), (.int (1 : Int32)), (.ref b200), (.ref b200)])) (fun _ k => XS.iand X201.here hx rfl (hb hby at_67) rfl (XS.i2c X201.here hx rfl (hb hby at_68) rfl k)) ?_
        obtain ⟨c202, A202, q202, S202, M202, H202, U202⟩ := id V201
        obtain ⟨T202, h202, X202, e202, W202, st202⟩ := stC X201 hx hZ e201 A202 (j := (1 : Int32)) (inb_of S202 ⟨by decide, by decide⟩) (g := (mkF m 69 #[.val (.int p0), .val (.int p1), .val (.int p2), .val (.int p3), .val (.int (p0 &&& (3 : Int32))), .val (.ref eD), .unset, .unset, .unset, .unset, .unset] [(.int ((p3 &&& (255 : Int32)).toUInt32.toUInt16.toUInt32.toInt32)), (.int (1 : Int32)), (.ref b200), (.ref b200)])) rfl rfl (hb hby at_69)
        have N202 := Fr.snoc X202 N201 (Nat.le_trans Z0 (Nat.le_of_eq g200.symm))
        have V202 : Arv Z h202 b200 k200 .char (2 : Int32) [(.int (nar .char ((p2 &&& (255 : Int32)).toUInt32.toUInt16.toUInt32.toInt32))), (.int (nar .char ((p3 &&& (255 : Int32)).toUInt32.toUInt16.toUInt32.toInt32)))] (.int (0 : Int32)) := Arv.set A202 q202 S202 M202 H202 U202 (fits_nar_char _) W202 1 rfl (Nat.le_of_ble_eq_true rfl)
        refine own_st (S' := T202.setTop (mkF m 70 #[.val (.int p0), .val (.int p1), .val (.int p2), .val (.int p3), .val (.int (p0 &&& (3 : Int32))), .val (.ref eD), .unset, .unset, .unset, .unset, .unset] [(.ref b200)])) st202 ?_
        refine own_st (S' := T202.setTop (mkF m 75 #[.val (.int p0), .val (.int p1), .val (.int p2), .val (.int p3), .val (.int (p0 &&& (3 : Int32))), .val (.ref eD), .val (.ref b200), .unset, .unset, .unset, .unset] [(.int (p1 &&& (3 : Int32)))])) (fun _ k => XS.astore X202.here hx rfl (hb hby at_70) rfl rfl (l' := #[.val (.int p0), .val (.int p1), .val (.int p2), .val (.int p3), .val (.int (p0 &&& (3 : Int32))), .val (.ref eD), .val (.ref b200), .unset, .unset, .unset, .unset]) rfl (XS.iloadN X202.here hx rfl (hb hby at_72) rfl (XS.iconst X202.here hx rfl (hb hby at_73) (XS.iand X202.here hx rfl (hb hby at_74) rfl k)))) ?_
        refine own_st (S' := T202.setTop (mkF m 79 #[.val (.int p0), .val (.int p1), .val (.int p2), .val (.int p3), .val (.int (p0 &&& (3 : Int32))), .val (.ref eD), .val (.ref b200), .val (.int (p1 &&& (3 : Int32))), .unset, .unset, .unset] [(.int (p1 &&& (3 : Int32)))])) (fun _ k => XS.istore X202.here hx rfl (hb hby at_75) rfl (l' := #[.val (.int p0), .val (.int p1), .val (.int p2), .val (.int p3), .val (.int (p0 &&& (3 : Int32))), .val (.ref eD), .val (.ref b200), .val (.int (p1 &&& (3 : Int32))), .unset, .unset, .unset]) rfl (XS.iload X202.here hx rfl (hb hby at_77) rfl k)) ?_
        by_cases hc203 : (p1 &&& (3 : Int32)) = (0 : Int32)
        · refine own_st (S' := T202.setTop (mkF m 132 #[.val (.int p0), .val (.int p1), .val (.int p2), .val (.int p3), .val (.int (p0 &&& (3 : Int32))), .val (.ref eD), .val (.ref b200), .val (.int (p1 &&& (3 : Int32))), .val .null, .unset, .unset] [])) (fun _ k => XS.ifNo X202.here hx rfl (hb hby at_79) rfl ((if0 _ _).trans (teq hc203).2) (XS.aconstNull X202.here hx rfl (hb hby at_82) (XS.astore X202.here hx rfl (hb hby at_83) rfl rfl (l' := #[.val (.int p0), .val (.int p1), .val (.int p2), .val (.int p3), .val (.int (p0 &&& (3 : Int32))), .val (.ref eD), .val (.ref b200), .val (.int (p1 &&& (3 : Int32))), .val .null, .unset, .unset]) rfl (XS.goto X202.here hx rfl (pc0 := 85) (pc' := 132) rfl (hb hby at_85) (by decide) (by decide) k)))) ?_
          refine own_st (S' := T202.setTop (mkF m 136 #[.val (.int p0), .val (.int p1), .val (.int p2), .val (.int p3), .val (.int (p0 &&& (3 : Int32))), .val (.ref eD), .val (.ref b200), .val (.int (p1 &&& (3 : Int32))), .val .null, .unset, .unset] [.null, (.ref eD)])) (fun _ k => XS.aload X202.here hx rfl (hb hby at_132) rfl rfl (XS.aload X202.here hx rfl (hb hby at_134) rfl rfl k)) ?_
          have XE204 : Ext h0 h202 := (own_xw (own_xw E200 W201 (Nat.le_of_eq g200.symm)) W202 (Nat.le_of_eq g200.symm))
          have XO205 : Old Z n0 h202 := (XO.ext XE204)
          obtain ⟨_, _, ⟨T206, L206, k206, n206⟩, -, X206, ⟨Lc206, hQ206, l206, y206, z206⟩, st206⟩ := Jvm.LawKit.callS X202 hx (y := (⟨"com/example/task_callbacks/taskcallbacks/event/Listing", "of", "(Lcom/example/task_callbacks/taskcallbacks/event/EventStatus;Ljava/lang/String;)Lcom/example/task_callbacks/taskcallbacks/event/Listing;"⟩ : MethodName)) hown (mvT hZ (hw _ own_w30)) (mvT hZ (hw _ own_w31)) (mvT hZ (hw _ own_w32)) (mvT hZ (hw _ own_w33)) (by decide) (backOf (W := 0) (own_rm_of10 l Z a0 hw G1 S1 P1 lA lT lS lB eP eD eF tN tT tP tQ tS tB B [] eD h202 n0 (Nat.le_trans Z0 (Nat.le_trans (Nat.le_trans E200.1 (Nat.le_of_eq W201.size.symm)) (Nat.le_of_eq W202.size.symm))) XO205 ) hZ (hw _ own_w33) (hw _ own_w32) (by decide) (by decide)) (g := (mkF m 136 #[.val (.int p0), .val (.int p1), .val (.int p2), .val (.int p3), .val (.int (p0 &&& (3 : Int32))), .val (.ref eD), .val (.ref b200), .val (.int (p1 &&& (3 : Int32))), .val .null, .unset, .unset] [.null, (.ref eD)])) rfl (by rw [hml]; rfl) (argsL := [(.ref eD), .null]) (rest := []) (lenOf own_pd3 rfl) rfl (by show 2 * 0 + _ ≤ _; exact Nat.le_of_eq rfl) (hb hby at_136) (fun _ _ => ⟨rfl, e202, (by decide : 1 + 0 ≤ _), (by decide : 2 + 0 ≤ _)⟩)
          dsimp only [Pt.U, Pt.locs, Pt.cells, Pt.slots] at X206 l206 y206 z206 st206 hQ206
          subst l206 y206 z206
          obtain ⟨rfl, M206, e206⟩ := hQ206
          have N206 := Fr.app N202 M206
          refine own_st (S' := T206.setTop (mkF m 139 #[.val (.int p0), .val (.int p1), .val (.int p2), .val (.int p3), .val (.int (p0 &&& (3 : Int32))), .val (.ref eD), .val (.ref b200), .val (.int (p1 &&& (3 : Int32))), .val .null, .unset, .unset] [(.ref lS)])) st206 ?_
          refine own_st (S' := T206.setTop (mkF m 150 #[.val (.int p0), .val (.int p1), .val (.int p2), .val (.int p3), .val (.int (p0 &&& (3 : Int32))), .val (.ref eD), .val (.ref b200), .val (.int (p1 &&& (3 : Int32))), .val .null, .val (.ref lS), .unset] [(.ref eD)])) (fun _ k => XS.astore X206.here hx rfl (hb hby at_139) rfl rfl (l' := #[.val (.int p0), .val (.int p1), .val (.int p2), .val (.int p3), .val (.int (p0 &&& (3 : Int32))), .val (.ref eD), .val (.ref b200), .val (.int (p1 &&& (3 : Int32))), .val .null, .val (.ref lS), .unset]) rfl (XS.aload X206.here hx rfl (hb hby at_141) rfl rfl (XS.ifnonnullYes X206.here hx rfl (pc0 := 143) (pc' := 148) rfl (hb hby at_143) rfl (by decide) (by decide) (XS.aload X206.here hx rfl (hb hby at_148) rfl rfl k)))) ?_
          refine own_st (S' := T206.setTop (mkF m 174 #[.val (.int p0), .val (.int p1), .val (.int p2), .val (.int p3), .val (.int (p0 &&& (3 : Int32))), .val (.ref eD), .val (.ref b200), .val (.int (p1 &&& (3 : Int32))), .val .null, .val (.ref lS), .unset] [(.ref eD)])) (fun _ k => XS.ifnonnullYes X206.here hx rfl (pc0 := 150) (pc' := 172) rfl (hb hby at_150) rfl (by decide) (by decide) (XS.aload X206.here hx rfl (hb hby at_172) rfl rfl k)) ?_
          have S207 : Sta Z h202 "com/example/task_callbacks/taskcallbacks/event/EventStatus" "PENDING" "Lcom/example/task_callbacks/taskcallbacks/event/EventStatus;" (.ref eP) := (B4.ext XO205.2)
          obtain ⟨T208, X208, e208, st208⟩ := getS2 X206 hx hZ hown (host := "") (Or.inl (hw _ own_w53)) Via.refl e206 S207 (g := (mkF m 174 #[.val (.int p0), .val (.int p1), .val (.int p2), .val (.int p3), .val (.int (p0 &&& (3 : Int32))), .val (.ref eD), .val (.ref b200), .val (.int (p1 &&& (3 : Int32))), .val .null, .val (.ref lS), .unset] [(.ref eD)])) rfl (hb hby at_174)
          refine own_st (S' := T208.setTop (mkF m 177 #[.val (.int p0), .val (.int p1), .val (.int p2), .val (.int p3), .val (.int (p0 &&& (3 : Int32))), .val (.ref eD), .val (.ref b200), .val (.int (p1 &&& (3 : Int32))), .val .null, .val (.ref lS), .unset] [(.ref eP), (.ref eD)])) st208 ?_
          refine own_st (S' := T208.setTop (mkF m 199 #[.val (.int p0), .val (.int p1), .val (.int p2), .val (.int p3), .val (.int (p0 &&& (3 : Int32))), .val (.ref eD), .val (.ref b200), .val (.int (p1 &&& (3 : Int32))), .val .null, .val (.ref lS), .unset] [])) (fun _ k => Jvm.RoadKit.acmp (g := (mkF m 177 #[.val (.int p0), .val (.int p1), .val (.int p2), .val (.int p3), .val (.int (p0 &&& (3 : Int32))), .val (.ref eD), .val (.ref b200), .val (.int (p1 &&& (3 : Int32))), .val .null, .val (.ref lS), .unset] [(.ref eP), (.ref eD)])) X208 hx rfl rfl rfl (pc0 := 177) (pc' := 199) (same := false) rfl (hb hby at_177) rfl (decide_eq_false fun q => B25 (Value.ref.inj q)) (by decide) (by decide) k) ?_
          refine own_st (S' := T208.setTop (mkF m 204 #[.val (.int p0), .val (.int p1), .val (.int p2), .val (.int p3), .val (.int (p0 &&& (3 : Int32))), .val (.ref eD), .val (.ref b200), .val (.int (p1 &&& (3 : Int32))), .val .null, .val (.ref lS), .unset] [])) (fun _ k => XS.aload X208.here hx rfl (hb hby at_199) rfl rfl (XS.ifnonnullNo X208.here hx rfl (hb hby at_201) rfl k)) ?_
          have S209 : Sta Z h202 "com/example/task_callbacks/taskcallbacks/store/Table" "EVENTS_BY_STATUS" "Lcom/example/task_callbacks/taskcallbacks/store/Table;" (.ref tS) := (B11.ext XO205.2)
          obtain ⟨T210, X210, e210, st210⟩ := getS2 X208 hx hZ hown (host := "") (Or.inl (hw _ own_w87)) Via.refl e208 S209 (g := (mkF m 204 #[.val (.int p0), .val (.int p1), .val (.int p2), .val (.int p3), .val (.int (p0 &&& (3 : Int32))), .val (.ref eD), .val (.ref b200), .val (.int (p1 &&& (3 : Int32))), .val .null, .val (.ref lS), .unset] [])) rfl (hb hby at_204)
          refine own_st (S' := T210.setTop (mkF m 207 #[.val (.int p0), .val (.int p1), .val (.int p2), .val (.int p3), .val (.int (p0 &&& (3 : Int32))), .val (.ref eD), .val (.ref b200), .val (.int (p1 &&& (3 : Int32))), .val .null, .val (.ref lS), .unset] [(.ref tS)])) st210 ?_
          refine own_st (S' := T210.setTop (mkF m 219 #[.val (.int p0), .val (.int p1), .val (.int p2), .val (.int p3), .val (.int (p0 &&& (3 : Int32))), .val (.ref eD), .val (.ref b200), .val (.int (p1 &&& (3 : Int32))), .val .null, .val (.ref lS), .val (.ref tS)] [(.ref eD), (.ref lS)])) (fun _ k => XS.goto X210.here hx rfl (pc0 := 207) (pc' := 213) rfl (hb hby at_207) (by decide) (by decide) (XS.astore X210.here hx rfl (hb hby at_213) rfl rfl (l' := #[.val (.int p0), .val (.int p1), .val (.int p2), .val (.int p3), .val (.int (p0 &&& (3 : Int32))), .val (.ref eD), .val (.ref b200), .val (.int (p1 &&& (3 : Int32))), .val .null, .val (.ref lS), .val (.ref tS)]) rfl (XS.aload X210.here hx rfl (hb hby at_215) rfl rfl (XS.aload X210.here hx rfl (hb hby at_217) rfl rfl k)))) ?_
          have A212 : Exa Z h202 lS "com/example/task_callbacks/taskcallbacks/event/Listing" := (B15.ext XO205.2)
          obtain ⟨cq211, kq211, q211a, q211b, q211c⟩ := isOf hZ e210 A212
          obtain ⟨_, _, ⟨T211, L211, k211, n211⟩, -, X211, ⟨Lc211, hQ211, l211, y211, z211⟩, st211⟩ := X210.virtualBack hx (y := (⟨"com/example/task_callbacks/taskcallbacks/event/Listing", "table", "(Lcom/example/task_callbacks/taskcallbacks/event/EventStatus;)Lcom/example/task_callbacks/taskcallbacks/store/Table;"⟩ : MethodName)) (z := (⟨"com/example/task_callbacks/taskcallbacks/event/Listing", "table", "(Lcom/example/task_callbacks/taskcallbacks/event/EventStatus;)Lcom/example/task_callbacks/taskcallbacks/store/Table;"⟩ : MethodName)) hown (mvT hZ (hw _ own_w39)) (mvT hZ (hw _ own_w40)) (notFace_of_selects (args := #[]) (mvT hZ (hw _ own_w42))) (mvT hZ (hw _ own_w42)) (mvT hZ (hw _ own_w41)) (by decide) (backOf (W := 0) (own_rm_ta_oth l Z a0 hw G1 S1 P1 lA lT lS lB eP eD eF tN tT tP tQ tS tB B [] lS tS eD h202 n0 (Nat.le_trans Z0 (Nat.le_trans (Nat.le_trans E200.1 (Nat.le_of_eq W201.size.symm)) (Nat.le_of_eq W202.size.symm))) XO205 B21 B25) hZ (hw _ own_w43) (hw _ own_w32) (by decide) (by decide)) q211a q211c (g := (mkF m 219 #[.val (.int p0), .val (.int p1), .val (.int p2), .val (.int p3), .val (.int (p0 &&& (3 : Int32))), .val (.ref eD), .val (.ref b200), .val (.int (p1 &&& (3 : Int32))), .val .null, .val (.ref lS), .val (.ref tS)] [(.ref eD), (.ref lS)])) rfl (by rw [hml]; rfl) (Steps.refl _) (argsL := [(.ref eD)]) (rest := []) (lenOf own_pd4 rfl) rfl (by show 2 * 0 + _ ≤ _; exact Nat.le_of_eq rfl) (hb hby at_219) (fun _ _ => ⟨rfl, e210, (by decide : 1 + 0 ≤ _), (by decide : 2 + 0 ≤ _)⟩)
          dsimp only [Pt.U, Pt.locs, Pt.cells, Pt.slots] at X211 l211 y211 z211 st211 hQ211
          subst l211 y211 z211
          obtain ⟨rfl, M211, e211⟩ := hQ211
          have N211 := Fr.app N206 M211
          refine own_tr (S' := T211.setTop (mkF m 222 #[.val (.int p0), .val (.int p1), .val (.int p2), .val (.int p3), .val (.int (p0 &&& (3 : Int32))), .val (.ref eD), .val (.ref b200), .val (.int (p1 &&& (3 : Int32))), .val .null, .val (.ref lS), .val (.ref tS)] [(.ref tS)])) st211 ?_
          refine own_st (S' := T211.setTop (mkF m 224 #[.val (.int p0), .val (.int p1), .val (.int p2), .val (.int p3), .val (.int (p0 &&& (3 : Int32))), .val (.ref eD), .val (.ref b200), .val (.int (p1 &&& (3 : Int32))), .val .null, .val (.ref lS), .val (.ref tS)] [(.ref tS), (.ref tS)])) (fun _ k => XS.aload X211.here hx rfl (hb hby at_222) rfl rfl k) ?_
          refine own_st (S' := T211.setTop (mkF m 227 #[.val (.int p0), .val (.int p1), .val (.int p2), .val (.int p3), .val (.int (p0 &&& (3 : Int32))), .val (.ref eD), .val (.ref b200), .val (.int (p1 &&& (3 : Int32))), .val .null, .val (.ref lS), .val (.ref tS)] [])) (fun _ k => Jvm.RoadKit.acmp (g := (mkF m 224 #[.val (.int p0), .val (.int p1), .val (.int p2), .val (.int p3), .val (.int (p0 &&& (3 : Int32))), .val (.ref eD), .val (.ref b200), .val (.int (p1 &&& (3 : Int32))), .val .null, .val (.ref lS), .val (.ref tS)] [(.ref tS), (.ref tS)])) X211 hx rfl rfl rfl (pc0 := 224) (pc' := 227) (same := true) rfl (hb hby at_224) rfl (decide_eq_true rfl) (by decide) (by decide) k) ?_
          refine own_st (S' := T211.setTop (mkF m 232 #[.val (.int p0), .val (.int p1), .val (.int p2), .val (.int p3), .val (.int (p0 &&& (3 : Int32))), .val (.ref eD), .val (.ref b200), .val (.int (p1 &&& (3 : Int32))), .val .null, .val (.ref lS), .val (.ref tS)] [(.int (1 : Int32))])) (fun _ k => XS.iconst X211.here hx rfl (hb hby at_227) (XS.goto X211.here hx rfl (pc0 := 228) (pc' := 232) rfl (hb hby at_228) (by decide) (by decide) k)) ?_
          refine own_retNW X211 hx Bd.returns hlk rfl (Or.inl ⟨rfl, (by simp), _, rfl⟩) (hb hby at_232) (by decide) (by decide) ?_
          rw [e211]
          exact ⟨rfl, N211⟩
        · refine own_st (S' := T202.setTop (mkF m 91 #[.val (.int p0), .val (.int p1), .val (.int p2), .val (.int p3), .val (.int (p0 &&& (3 : Int32))), .val (.ref eD), .val (.ref b200), .val (.int (p1 &&& (3 : Int32))), .unset, .unset, .unset] [(.int (1 : Int32)), (.int (p1 &&& (3 : Int32)))])) (fun _ k => XS.ifYes X202.here hx rfl (pc0 := 79) (pc' := 88) rfl (hb hby at_79) rfl ((if0 _ _).trans (feq hc203).2) (by decide) (by decide) (XS.iload X202.here hx rfl (hb hby at_88) rfl (XS.iconst X202.here hx rfl (hb hby at_90) k))) ?_
          by_cases hc213 : (p1 &&& (3 : Int32)) = (1 : Int32)
          · refine own_st (S' := T202.setTop (mkF m 94 #[.val (.int p0), .val (.int p1), .val (.int p2), .val (.int p3), .val (.int (p0 &&& (3 : Int32))), .val (.ref eD), .val (.ref b200), .val (.int (p1 &&& (3 : Int32))), .unset, .unset, .unset] [])) (fun _ k => XS.icmpNo X202.here hx rfl (hb hby at_91) rfl (teq hc213).2 k) ?_
            obtain ⟨u214, T214, h214, k214, X214, e214, E214, sn214, sk214, hz214, ho214, st214⟩ := ldcS (s := s) (vm0 := s.vm) X202 hx hZ hown (hw _ own_w78) (fun d hd => hw d ((by decide +kernel : ∀ d ∈ Bundle.stringAtoms, d ∈ tables_1) d hd)) e202 ((State.WarmedH.refl s).since 0) (Nat.zero_le _) (g := (mkF m 94 #[.val (.int p0), .val (.int p1), .val (.int p2), .val (.int p3), .val (.int (p0 &&& (3 : Int32))), .val (.ref eD), .val (.ref b200), .val (.int (p1 &&& (3 : Int32))), .unset, .unset, .unset] [])) rfl (hb hby at_94) (n := 0) (by decide) (by decide) (by decide) (by decide)
            refine own_st (S' := T214.setTop (mkF m 96 #[.val (.int p0), .val (.int p1), .val (.int p2), .val (.int p3), .val (.int (p0 &&& (3 : Int32))), .val (.ref eD), .val (.ref b200), .val (.int (p1 &&& (3 : Int32))), .unset, .unset, .unset] [(.ref u214)])) st214 ?_
            refine own_st (S' := T214.setTop (mkF m 136 #[.val (.int p0), .val (.int p1), .val (.int p2), .val (.int p3), .val (.int (p0 &&& (3 : Int32))), .val (.ref eD), .val (.ref b200), .val (.int (p1 &&& (3 : Int32))), .val (.ref u214), .unset, .unset] [(.ref u214), (.ref eD)])) (fun _ k => XS.astore X214.here hx rfl (hb hby at_96) rfl rfl (l' := #[.val (.int p0), .val (.int p1), .val (.int p2), .val (.int p3), .val (.int (p0 &&& (3 : Int32))), .val (.ref eD), .val (.ref b200), .val (.int (p1 &&& (3 : Int32))), .val (.ref u214), .unset, .unset]) rfl (XS.goto X214.here hx rfl (pc0 := 98) (pc' := 132) rfl (hb hby at_98) (by decide) (by decide) (XS.aload X214.here hx rfl (hb hby at_132) rfl rfl (XS.aload X214.here hx rfl (hb hby at_134) rfl rfl k)))) ?_
            have XE215 : Ext h0 h214 := (own_xt (own_xw (own_xw E200 W201 (Nat.le_of_eq g200.symm)) W202 (Nat.le_of_eq g200.symm)) E214)
            have XO216 : Old Z n0 h214 := (XO.ext XE215)
            obtain ⟨_, _, ⟨T217, L217, k217, n217⟩, -, X217, ⟨Lc217, hQ217, l217, y217, z217⟩, st217⟩ := Jvm.LawKit.callS X214 hx (y := (⟨"com/example/task_callbacks/taskcallbacks/event/Listing", "of", "(Lcom/example/task_callbacks/taskcallbacks/event/EventStatus;Ljava/lang/String;)Lcom/example/task_callbacks/taskcallbacks/event/Listing;"⟩ : MethodName)) ho214 (mvT hz214 (hw _ own_w30)) (mvT hz214 (hw _ own_w31)) (mvT hz214 (hw _ own_w32)) (mvT hz214 (hw _ own_w33)) (by decide) (backOf (W := 0) (own_rm_of11 l Z a0 hw G1 S1 P1 lA lT lS lB eP eD eF tN tT tP tQ tS tB B [] eD u214 h214 n0 (Nat.le_trans Z0 (Nat.le_trans (Nat.le_trans (Nat.le_trans E200.1 (Nat.le_of_eq W201.size.symm)) (Nat.le_of_eq W202.size.symm)) E214.1)) XO216 ) hz214 (hw _ own_w33) (hw _ own_w32) (by decide) (by decide)) (g := (mkF m 136 #[.val (.int p0), .val (.int p1), .val (.int p2), .val (.int p3), .val (.int (p0 &&& (3 : Int32))), .val (.ref eD), .val (.ref b200), .val (.int (p1 &&& (3 : Int32))), .val (.ref u214), .unset, .unset] [(.ref u214), (.ref eD)])) rfl (by rw [hml]; rfl) (argsL := [(.ref eD), (.ref u214)]) (rest := []) (lenOf own_pd3 rfl) rfl (by show 2 * 0 + _ ≤ _; exact Nat.le_of_eq rfl) (hb hby at_136) (fun _ _ => ⟨rfl, e214, (by decide : 3 + 0 ≤ _), (by decide : 6 + 0 ≤ _)⟩)
            dsimp only [Pt.U, Pt.locs, Pt.cells, Pt.slots] at X217 l217 y217 z217 st217 hQ217
            subst l217 y217 z217
            obtain ⟨rfl, M217, e217⟩ := hQ217
            have N217 := Fr.app N202 M217
            refine own_st (S' := T217.setTop (mkF m 139 #[.val (.int p0), .val (.int p1), .val (.int p2), .val (.int p3), .val (.int (p0 &&& (3 : Int32))), .val (.ref eD), .val (.ref b200), .val (.int (p1 &&& (3 : Int32))), .val (.ref u214), .unset, .unset] [(.ref lB)])) st217 ?_
            refine own_st (S' := T217.setTop (mkF m 150 #[.val (.int p0), .val (.int p1), .val (.int p2), .val (.int p3), .val (.int (p0 &&& (3 : Int32))), .val (.ref eD), .val (.ref b200), .val (.int (p1 &&& (3 : Int32))), .val (.ref u214), .val (.ref lB), .unset] [(.ref eD)])) (fun _ k => XS.astore X217.here hx rfl (hb hby at_139) rfl rfl (l' := #[.val (.int p0), .val (.int p1), .val (.int p2), .val (.int p3), .val (.int (p0 &&& (3 : Int32))), .val (.ref eD), .val (.ref b200), .val (.int (p1 &&& (3 : Int32))), .val (.ref u214), .val (.ref lB), .unset]) rfl (XS.aload X217.here hx rfl (hb hby at_141) rfl rfl (XS.ifnonnullYes X217.here hx rfl (pc0 := 143) (pc' := 148) rfl (hb hby at_143) rfl (by decide) (by decide) (XS.aload X217.here hx rfl (hb hby at_148) rfl rfl k)))) ?_
            refine own_st (S' := T217.setTop (mkF m 174 #[.val (.int p0), .val (.int p1), .val (.int p2), .val (.int p3), .val (.int (p0 &&& (3 : Int32))), .val (.ref eD), .val (.ref b200), .val (.int (p1 &&& (3 : Int32))), .val (.ref u214), .val (.ref lB), .unset] [(.ref eD)])) (fun _ k => XS.ifnonnullYes X217.here hx rfl (pc0 := 150) (pc' := 172) rfl (hb hby at_150) rfl (by decide) (by decide) (XS.aload X217.here hx rfl (hb hby at_172) rfl rfl k)) ?_
            have S218 : Sta Z h214 "com/example/task_callbacks/taskcallbacks/event/EventStatus" "PENDING" "Lcom/example/task_callbacks/taskcallbacks/event/EventStatus;" (.ref eP) := (B4.ext XO216.2)
            obtain ⟨T219, X219, e219, st219⟩ := getS2 X217 hx hz214 ho214 (host := "") (Or.inl (hw _ own_w53)) Via.refl e217 S218 (g := (mkF m 174 #[.val (.int p0), .val (.int p1), .val (.int p2), .val (.int p3), .val (.int (p0 &&& (3 : Int32))), .val (.ref eD), .val (.ref b200), .val (.int (p1 &&& (3 : Int32))), .val (.ref u214), .val (.ref lB), .unset] [(.ref eD)])) rfl (hb hby at_174)
            refine own_st (S' := T219.setTop (mkF m 177 #[.val (.int p0), .val (.int p1), .val (.int p2), .val (.int p3), .val (.int (p0 &&& (3 : Int32))), .val (.ref eD), .val (.ref b200), .val (.int (p1 &&& (3 : Int32))), .val (.ref u214), .val (.ref lB), .unset] [(.ref eP), (.ref eD)])) st219 ?_
            refine own_st (S' := T219.setTop (mkF m 199 #[.val (.int p0), .val (.int p1), .val (.int p2), .val (.int p3), .val (.int (p0 &&& (3 : Int32))), .val (.ref eD), .val (.ref b200), .val (.int (p1 &&& (3 : Int32))), .val (.ref u214), .val (.ref lB), .unset] [])) (fun _ k => Jvm.RoadKit.acmp (g := (mkF m 177 #[.val (.int p0), .val (.int p1), .val (.int p2), .val (.int p3), .val (.int (p0 &&& (3 : Int32))), .val (.ref eD), .val (.ref b200), .val (.int (p1 &&& (3 : Int32))), .val (.ref u214), .val (.ref lB), .unset] [(.ref eP), (.ref eD)])) X219 hx rfl rfl rfl (pc0 := 177) (pc' := 199) (same := false) rfl (hb hby at_177) rfl (decide_eq_false fun q => B25 (Value.ref.inj q)) (by decide) (by decide) k) ?_
            refine own_st (S' := T219.setTop (mkF m 210 #[.val (.int p0), .val (.int p1), .val (.int p2), .val (.int p3), .val (.int (p0 &&& (3 : Int32))), .val (.ref eD), .val (.ref b200), .val (.int (p1 &&& (3 : Int32))), .val (.ref u214), .val (.ref lB), .unset] [])) (fun _ k => XS.aload X219.here hx rfl (hb hby at_199) rfl rfl (XS.ifnonnullYes X219.here hx rfl (pc0 := 201) (pc' := 210) rfl (hb hby at_201) rfl (by decide) (by decide) k)) ?_
            have S220 : Sta Z h214 "com/example/task_callbacks/taskcallbacks/store/Table" "EVENTS_BY_STATUS_AND_TYPE" "Lcom/example/task_callbacks/taskcallbacks/store/Table;" (.ref tB) := (B12.ext XO216.2)
            obtain ⟨T221, X221, e221, st221⟩ := getS2 X219 hx hz214 ho214 (host := "") (Or.inl (hw _ own_w54)) Via.refl e219 S220 (g := (mkF m 210 #[.val (.int p0), .val (.int p1), .val (.int p2), .val (.int p3), .val (.int (p0 &&& (3 : Int32))), .val (.ref eD), .val (.ref b200), .val (.int (p1 &&& (3 : Int32))), .val (.ref u214), .val (.ref lB), .unset] [])) rfl (hb hby at_210)
            refine own_st (S' := T221.setTop (mkF m 213 #[.val (.int p0), .val (.int p1), .val (.int p2), .val (.int p3), .val (.int (p0 &&& (3 : Int32))), .val (.ref eD), .val (.ref b200), .val (.int (p1 &&& (3 : Int32))), .val (.ref u214), .val (.ref lB), .unset] [(.ref tB)])) st221 ?_
            refine own_st (S' := T221.setTop (mkF m 219 #[.val (.int p0), .val (.int p1), .val (.int p2), .val (.int p3), .val (.int (p0 &&& (3 : Int32))), .val (.ref eD), .val (.ref b200), .val (.int (p1 &&& (3 : Int32))), .val (.ref u214), .val (.ref lB), .val (.ref tB)] [(.ref eD), (.ref lB)])) (fun _ k => XS.astore X221.here hx rfl (hb hby at_213) rfl rfl (l' := #[.val (.int p0), .val (.int p1), .val (.int p2), .val (.int p3), .val (.int (p0 &&& (3 : Int32))), .val (.ref eD), .val (.ref b200), .val (.int (p1 &&& (3 : Int32))), .val (.ref u214), .val (.ref lB), .val (.ref tB)]) rfl (XS.aload X221.here hx rfl (hb hby at_215) rfl rfl (XS.aload X221.here hx rfl (hb hby at_217) rfl rfl k))) ?_
            have A223 : Exa Z h214 lB "com/example/task_callbacks/taskcallbacks/event/Listing" := (B16.ext XO216.2)
            obtain ⟨cq222, kq222, q222a, q222b, q222c⟩ := isOf hz214 e221 A223
            obtain ⟨_, _, ⟨T222, L222, k222, n222⟩, -, X222, ⟨Lc222, hQ222, l222, y222, z222⟩, st222⟩ := X221.virtualBack hx (y := (⟨"com/example/task_callbacks/taskcallbacks/event/Listing", "table", "(Lcom/example/task_callbacks/taskcallbacks/event/EventStatus;)Lcom/example/task_callbacks/taskcallbacks/store/Table;"⟩ : MethodName)) (z := (⟨"com/example/task_callbacks/taskcallbacks/event/Listing", "table", "(Lcom/example/task_callbacks/taskcallbacks/event/EventStatus;)Lcom/example/task_callbacks/taskcallbacks/store/Table;"⟩ : MethodName)) ho214 (mvT hz214 (hw _ own_w39)) (mvT hz214 (hw _ own_w40)) (notFace_of_selects (args := #[]) (mvT hz214 (hw _ own_w42))) (mvT hz214 (hw _ own_w42)) (mvT hz214 (hw _ own_w41)) (by decide) (backOf (W := 0) (own_rm_ta_oth l Z a0 hw G1 S1 P1 lA lT lS lB eP eD eF tN tT tP tQ tS tB B [] lB tB eD h214 n0 (Nat.le_trans Z0 (Nat.le_trans (Nat.le_trans (Nat.le_trans E200.1 (Nat.le_of_eq W201.size.symm)) (Nat.le_of_eq W202.size.symm)) E214.1)) XO216 B23 B25) hz214 (hw _ own_w43) (hw _ own_w32) (by decide) (by decide)) q222a q222c (g := (mkF m 219 #[.val (.int p0), .val (.int p1), .val (.int p2), .val (.int p3), .val (.int (p0 &&& (3 : Int32))), .val (.ref eD), .val (.ref b200), .val (.int (p1 &&& (3 : Int32))), .val (.ref u214), .val (.ref lB), .val (.ref tB)] [(.ref eD), (.ref lB)])) rfl (by rw [hml]; rfl) (Steps.refl _) (argsL := [(.ref eD)]) (rest := []) (lenOf own_pd4 rfl) rfl (by show 2 * 0 + _ ≤ _; exact Nat.le_of_eq rfl) (hb hby at_219) (fun _ _ => ⟨rfl, e221, (by decide : 3 + 0 ≤ _), (by decide : 6 + 0 ≤ _)⟩)
            dsimp only [Pt.U, Pt.locs, Pt.cells, Pt.slots] at X222 l222 y222 z222 st222 hQ222
            subst l222 y222 z222
            obtain ⟨rfl, M222, e222⟩ := hQ222
            have N222 := Fr.app N217 M222
            refine own_tr (S' := T222.setTop (mkF m 222 #[.val (.int p0), .val (.int p1), .val (.int p2), .val (.int p3), .val (.int (p0 &&& (3 : Int32))), .val (.ref eD), .val (.ref b200), .val (.int (p1 &&& (3 : Int32))), .val (.ref u214), .val (.ref lB), .val (.ref tB)] [(.ref tB)])) st222 ?_
            refine own_st (S' := T222.setTop (mkF m 224 #[.val (.int p0), .val (.int p1), .val (.int p2), .val (.int p3), .val (.int (p0 &&& (3 : Int32))), .val (.ref eD), .val (.ref b200), .val (.int (p1 &&& (3 : Int32))), .val (.ref u214), .val (.ref lB), .val (.ref tB)] [(.ref tB), (.ref tB)])) (fun _ k => XS.aload X222.here hx rfl (hb hby at_222) rfl rfl k) ?_
            refine own_st (S' := T222.setTop (mkF m 227 #[.val (.int p0), .val (.int p1), .val (.int p2), .val (.int p3), .val (.int (p0 &&& (3 : Int32))), .val (.ref eD), .val (.ref b200), .val (.int (p1 &&& (3 : Int32))), .val (.ref u214), .val (.ref lB), .val (.ref tB)] [])) (fun _ k => Jvm.RoadKit.acmp (g := (mkF m 224 #[.val (.int p0), .val (.int p1), .val (.int p2), .val (.int p3), .val (.int (p0 &&& (3 : Int32))), .val (.ref eD), .val (.ref b200), .val (.int (p1 &&& (3 : Int32))), .val (.ref u214), .val (.ref lB), .val (.ref tB)] [(.ref tB), (.ref tB)])) X222 hx rfl rfl rfl (pc0 := 224) (pc' := 227) (same := true) rfl (hb hby at_224) rfl (decide_eq_true rfl) (by decide) (by decide) k) ?_
            refine own_st (S' := T222.setTop (mkF m 232 #[.val (.int p0), .val (.int p1), .val (.int p2), .val (.int p3), .val (.int (p0 &&& (3 : Int32))), .val (.ref eD), .val (.ref b200), .val (.int (p1 &&& (3 : Int32))), .val (.ref u214), .val (.ref lB), .val (.ref tB)] [(.int (1 : Int32))])) (fun _ k => XS.iconst X222.here hx rfl (hb hby at_227) (XS.goto X222.here hx rfl (pc0 := 228) (pc' := 232) rfl (hb hby at_228) (by decide) (by decide) k)) ?_
            refine own_retW X222 hx sn214 (by rw [e222]; exact Nat.le_trans sk214 (Nat.le_refl _)) Bd.returns hlk rfl (Or.inl ⟨rfl, (by simp), _, rfl⟩) (hb hby at_232) (by decide) (by decide) ?_
            rw [e222]
            exact ⟨rfl, N222⟩
          · refine own_st (S' := T202.setTop (mkF m 104 #[.val (.int p0), .val (.int p1), .val (.int p2), .val (.int p3), .val (.int (p0 &&& (3 : Int32))), .val (.ref eD), .val (.ref b200), .val (.int (p1 &&& (3 : Int32))), .unset, .unset, .unset] [(.int (2 : Int32)), (.int (p1 &&& (3 : Int32)))])) (fun _ k => XS.icmpYes X202.here hx rfl (pc0 := 91) (pc' := 101) rfl (hb hby at_91) rfl (feq hc213).2 (by decide) (by decide) (XS.iload X202.here hx rfl (hb hby at_101) rfl (XS.iconst X202.here hx rfl (hb hby at_103) k))) ?_
            by_cases hc224 : (p1 &&& (3 : Int32)) = (2 : Int32)
            · refine own_st (S' := T202.setTop (mkF m 112 #[.val (.int p0), .val (.int p1), .val (.int p2), .val (.int p3), .val (.int (p0 &&& (3 : Int32))), .val (.ref eD), .val (.ref b200), .val (.int (p1 &&& (3 : Int32))), .unset, .unset, .unset] [(.int (p2 &&& (255 : Int32)))])) (fun _ k => XS.icmpNo X202.here hx rfl (hb hby at_104) rfl (teq hc224).2 (XS.iloadN X202.here hx rfl (hb hby at_107) rfl (XS.sipush X202.here hx rfl (hb hby at_108) (XS.iand X202.here hx rfl (hb hby at_111) rfl k)))) ?_
              refine own_st (S' := T202.setTop (mkF m 113 #[.val (.int p0), .val (.int p1), .val (.int p2), .val (.int p3), .val (.int (p0 &&& (3 : Int32))), .val (.ref eD), .val (.ref b200), .val (.int (p1 &&& (3 : Int32))), .unset, .unset, .unset] [(.int ((p2 &&& (255 : Int32)).toUInt32.toUInt16.toUInt32.toInt32))])) (fun _ k => XS.i2c X202.here hx rfl (hb hby at_112) rfl k) ?_
              have XE225 : Ext h0 h202 := (own_xw (own_xw E200 W201 (Nat.le_of_eq g200.symm)) W202 (Nat.le_of_eq g200.symm))
              have XO226 : Old Z n0 h202 := (XO.ext XE225)
              obtain ⟨_, _, ⟨T227, L227, k227, n227⟩, -, X227, ⟨Lc227, hQ227, l227, y227, z227⟩, st227⟩ := Jvm.LawKit.callS X202 hx (y := (⟨"java/lang/String", "valueOf", "(C)Ljava/lang/String;"⟩ : MethodName)) hown (mvT hZ (hw _ own_w58)) (mvT hZ (hw _ own_w59)) (mvT hZ (hw _ own_w3)) (mvT hZ (hw _ own_w60)) (by decide) (backOf (W := 0) (own_rm_vof l Z a0 hw G1 S1 P1 lA lT lS lB eP eD eF tN tT tP tQ tS tB B [] ((p2 &&& (255 : Int32)).toUInt32.toUInt16.toUInt32.toInt32) h202 n0 (Nat.le_trans Z0 (Nat.le_trans (Nat.le_trans E200.1 (Nat.le_of_eq W201.size.symm)) (Nat.le_of_eq W202.size.symm))) XO226 (own_c0 p2).1 (own_c0 p2).2) hZ (hw _ own_w60) (hw _ own_w3) (by decide) (by decide)) (g := (mkF m 113 #[.val (.int p0), .val (.int p1), .val (.int p2), .val (.int p3), .val (.int (p0 &&& (3 : Int32))), .val (.ref eD), .val (.ref b200), .val (.int (p1 &&& (3 : Int32))), .unset, .unset, .unset] [(.int ((p2 &&& (255 : Int32)).toUInt32.toUInt16.toUInt32.toInt32))])) rfl (by rw [hml]; rfl) (argsL := [(.int ((p2 &&& (255 : Int32)).toUInt32.toUInt16.toUInt32.toInt32))]) (rest := []) (lenOf own_pd5 rfl) rfl (by show 2 * 0 + _ ≤ _; exact Nat.le_of_eq rfl) (hb hby at_113) (fun _ _ => ⟨rfl, e202, (by decide : 1 + 2 ≤ _), (by decide : 2 + 5 ≤ _)⟩)
              dsimp only [Pt.U, Pt.locs, Pt.cells, Pt.slots] at X227 l227 y227 z227 st227 hQ227
              subst l227 y227 z227
              obtain ⟨r227, rfl, M227, E227, g227, Y227⟩ := hQ227
              have N227 := Fr.app N202 M227
              obtain ⟨h227, e227⟩ : ∃ z, T227.heap = z := ⟨_, rfl⟩
              rw [e227] at E227 Y227
              refine own_st (S' := T227.setTop (mkF m 116 #[.val (.int p0), .val (.int p1), .val (.int p2), .val (.int p3), .val (.int (p0 &&& (3 : Int32))), .val (.ref eD), .val (.ref b200), .val (.int (p1 &&& (3 : Int32))), .unset, .unset, .unset] [(.ref r227)])) st227 ?_
              refine own_st (S' := T227.setTop (mkF m 136 #[.val (.int p0), .val (.int p1), .val (.int p2), .val (.int p3), .val (.int (p0 &&& (3 : Int32))), .val (.ref eD), .val (.ref b200), .val (.int (p1 &&& (3 : Int32))), .val (.ref r227), .unset, .unset] [(.ref r227), (.ref eD)])) (fun _ k => XS.astore X227.here hx rfl (hb hby at_116) rfl rfl (l' := #[.val (.int p0), .val (.int p1), .val (.int p2), .val (.int p3), .val (.int (p0 &&& (3 : Int32))), .val (.ref eD), .val (.ref b200), .val (.int (p1 &&& (3 : Int32))), .val (.ref r227), .unset, .unset]) rfl (XS.goto X227.here hx rfl (pc0 := 118) (pc' := 132) rfl (hb hby at_118) (by decide) (by decide) (XS.aload X227.here hx rfl (hb hby at_132) rfl rfl (XS.aload X227.here hx rfl (hb hby at_134) rfl rfl k)))) ?_
              have XO228 : Old Z n0 h227 := (XO226.ext E227)
              obtain ⟨_, _, ⟨T229, L229, k229, n229⟩, -, X229, ⟨Lc229, hQ229, l229, y229, z229⟩, st229⟩ := Jvm.LawKit.callS X227 hx (y := (⟨"com/example/task_callbacks/taskcallbacks/event/Listing", "of", "(Lcom/example/task_callbacks/taskcallbacks/event/EventStatus;Ljava/lang/String;)Lcom/example/task_callbacks/taskcallbacks/event/Listing;"⟩ : MethodName)) hown (mvT hZ (hw _ own_w30)) (mvT hZ (hw _ own_w31)) (mvT hZ (hw _ own_w32)) (mvT hZ (hw _ own_w33)) (by decide) (backOf (W := 0) (own_rm_of11 l Z a0 hw G1 S1 P1 lA lT lS lB eP eD eF tN tT tP tQ tS tB B [] eD r227 h227 n0 (Nat.le_trans Z0 (Nat.le_trans (Nat.le_trans (Nat.le_trans E200.1 (Nat.le_of_eq W201.size.symm)) (Nat.le_of_eq W202.size.symm)) E227.1)) XO228 ) hZ (hw _ own_w33) (hw _ own_w32) (by decide) (by decide)) (g := (mkF m 136 #[.val (.int p0), .val (.int p1), .val (.int p2), .val (.int p3), .val (.int (p0 &&& (3 : Int32))), .val (.ref eD), .val (.ref b200), .val (.int (p1 &&& (3 : Int32))), .val (.ref r227), .unset, .unset] [(.ref r227), (.ref eD)])) rfl (by rw [hml]; rfl) (argsL := [(.ref eD), (.ref r227)]) (rest := []) (lenOf own_pd3 rfl) rfl (by show 2 * 0 + _ ≤ _; exact Nat.le_of_eq rfl) (hb hby at_136) (fun _ _ => ⟨rfl, e227, (by decide : 3 + 0 ≤ _), (by decide : 7 + 0 ≤ _)⟩)
              dsimp only [Pt.U, Pt.locs, Pt.cells, Pt.slots] at X229 l229 y229 z229 st229 hQ229
              subst l229 y229 z229
              obtain ⟨rfl, M229, e229⟩ := hQ229
              have N229 := Fr.app N227 M229
              refine own_st (S' := T229.setTop (mkF m 139 #[.val (.int p0), .val (.int p1), .val (.int p2), .val (.int p3), .val (.int (p0 &&& (3 : Int32))), .val (.ref eD), .val (.ref b200), .val (.int (p1 &&& (3 : Int32))), .val (.ref r227), .unset, .unset] [(.ref lB)])) st229 ?_
              refine own_st (S' := T229.setTop (mkF m 150 #[.val (.int p0), .val (.int p1), .val (.int p2), .val (.int p3), .val (.int (p0 &&& (3 : Int32))), .val (.ref eD), .val (.ref b200), .val (.int (p1 &&& (3 : Int32))), .val (.ref r227), .val (.ref lB), .unset] [(.ref eD)])) (fun _ k => XS.astore X229.here hx rfl (hb hby at_139) rfl rfl (l' := #[.val (.int p0), .val (.int p1), .val (.int p2), .val (.int p3), .val (.int (p0 &&& (3 : Int32))), .val (.ref eD), .val (.ref b200), .val (.int (p1 &&& (3 : Int32))), .val (.ref r227), .val (.ref lB), .unset]) rfl (XS.aload X229.here hx rfl (hb hby at_141) rfl rfl (XS.ifnonnullYes X229.here hx rfl (pc0 := 143) (pc' := 148) rfl (hb hby at_143) rfl (by decide) (by decide) (XS.aload X229.here hx rfl (hb hby at_148) rfl rfl k)))) ?_
              refine own_st (S' := T229.setTop (mkF m 174 #[.val (.int p0), .val (.int p1), .val (.int p2), .val (.int p3), .val (.int (p0 &&& (3 : Int32))), .val (.ref eD), .val (.ref b200), .val (.int (p1 &&& (3 : Int32))), .val (.ref r227), .val (.ref lB), .unset] [(.ref eD)])) (fun _ k => XS.ifnonnullYes X229.here hx rfl (pc0 := 150) (pc' := 172) rfl (hb hby at_150) rfl (by decide) (by decide) (XS.aload X229.here hx rfl (hb hby at_172) rfl rfl k)) ?_
              have S230 : Sta Z h227 "com/example/task_callbacks/taskcallbacks/event/EventStatus" "PENDING" "Lcom/example/task_callbacks/taskcallbacks/event/EventStatus;" (.ref eP) := (B4.ext XO228.2)
              obtain ⟨T231, X231, e231, st231⟩ := getS2 X229 hx hZ hown (host := "") (Or.inl (hw _ own_w53)) Via.refl e229 S230 (g := (mkF m 174 #[.val (.int p0), .val (.int p1), .val (.int p2), .val (.int p3), .val (.int (p0 &&& (3 : Int32))), .val (.ref eD), .val (.ref b200), .val (.int (p1 &&& (3 : Int32))), .val (.ref r227), .val (.ref lB), .unset] [(.ref eD)])) rfl (hb hby at_174)
              refine own_st (S' := T231.setTop (mkF m 177 #[.val (.int p0), .val (.int p1), .val (.int p2), .val (.int p3), .val (.int (p0 &&& (3 : Int32))), .val (.ref eD), .val (.ref b200), .val (.int (p1 &&& (3 : Int32))), .val (.ref r227), .val (.ref lB), .unset] [(.ref eP), (.ref eD)])) st231 ?_
              refine own_st (S' := T231.setTop (mkF m 199 #[.val (.int p0), .val (.int p1), .val (.int p2), .val (.int p3), .val (.int (p0 &&& (3 : Int32))), .val (.ref eD), .val (.ref b200), .val (.int (p1 &&& (3 : Int32))), .val (.ref r227), .val (.ref lB), .unset] [])) (fun _ k => Jvm.RoadKit.acmp (g := (mkF m 177 #[.val (.int p0), .val (.int p1), .val (.int p2), .val (.int p3), .val (.int (p0 &&& (3 : Int32))), .val (.ref eD), .val (.ref b200), .val (.int (p1 &&& (3 : Int32))), .val (.ref r227), .val (.ref lB), .unset] [(.ref eP), (.ref eD)])) X231 hx rfl rfl rfl (pc0 := 177) (pc' := 199) (same := false) rfl (hb hby at_177) rfl (decide_eq_false fun q => B25 (Value.ref.inj q)) (by decide) (by decide) k) ?_
              refine own_st (S' := T231.setTop (mkF m 210 #[.val (.int p0), .val (.int p1), .val (.int p2), .val (.int p3), .val (.int (p0 &&& (3 : Int32))), .val (.ref eD), .val (.ref b200), .val (.int (p1 &&& (3 : Int32))), .val (.ref r227), .val (.ref lB), .unset] [])) (fun _ k => XS.aload X231.here hx rfl (hb hby at_199) rfl rfl (XS.ifnonnullYes X231.here hx rfl (pc0 := 201) (pc' := 210) rfl (hb hby at_201) rfl (by decide) (by decide) k)) ?_
              have S232 : Sta Z h227 "com/example/task_callbacks/taskcallbacks/store/Table" "EVENTS_BY_STATUS_AND_TYPE" "Lcom/example/task_callbacks/taskcallbacks/store/Table;" (.ref tB) := (B12.ext XO228.2)
              obtain ⟨T233, X233, e233, st233⟩ := getS2 X231 hx hZ hown (host := "") (Or.inl (hw _ own_w54)) Via.refl e231 S232 (g := (mkF m 210 #[.val (.int p0), .val (.int p1), .val (.int p2), .val (.int p3), .val (.int (p0 &&& (3 : Int32))), .val (.ref eD), .val (.ref b200), .val (.int (p1 &&& (3 : Int32))), .val (.ref r227), .val (.ref lB), .unset] [])) rfl (hb hby at_210)
              refine own_st (S' := T233.setTop (mkF m 213 #[.val (.int p0), .val (.int p1), .val (.int p2), .val (.int p3), .val (.int (p0 &&& (3 : Int32))), .val (.ref eD), .val (.ref b200), .val (.int (p1 &&& (3 : Int32))), .val (.ref r227), .val (.ref lB), .unset] [(.ref tB)])) st233 ?_
              refine own_st (S' := T233.setTop (mkF m 219 #[.val (.int p0), .val (.int p1), .val (.int p2), .val (.int p3), .val (.int (p0 &&& (3 : Int32))), .val (.ref eD), .val (.ref b200), .val (.int (p1 &&& (3 : Int32))), .val (.ref r227), .val (.ref lB), .val (.ref tB)] [(.ref eD), (.ref lB)])) (fun _ k => XS.astore X233.here hx rfl (hb hby at_213) rfl rfl (l' := #[.val (.int p0), .val (.int p1), .val (.int p2), .val (.int p3), .val (.int (p0 &&& (3 : Int32))), .val (.ref eD), .val (.ref b200), .val (.int (p1 &&& (3 : Int32))), .val (.ref r227), .val (.ref lB), .val (.ref tB)]) rfl (XS.aload X233.here hx rfl (hb hby at_215) rfl rfl (XS.aload X233.here hx rfl (hb hby at_217) rfl rfl k))) ?_
              have A235 : Exa Z h227 lB "com/example/task_callbacks/taskcallbacks/event/Listing" := (B16.ext XO228.2)
              obtain ⟨cq234, kq234, q234a, q234b, q234c⟩ := isOf hZ e233 A235
              obtain ⟨_, _, ⟨T234, L234, k234, n234⟩, -, X234, ⟨Lc234, hQ234, l234, y234, z234⟩, st234⟩ := X233.virtualBack hx (y := (⟨"com/example/task_callbacks/taskcallbacks/event/Listing", "table", "(Lcom/example/task_callbacks/taskcallbacks/event/EventStatus;)Lcom/example/task_callbacks/taskcallbacks/store/Table;"⟩ : MethodName)) (z := (⟨"com/example/task_callbacks/taskcallbacks/event/Listing", "table", "(Lcom/example/task_callbacks/taskcallbacks/event/EventStatus;)Lcom/example/task_callbacks/taskcallbacks/store/Table;"⟩ : MethodName)) hown (mvT hZ (hw _ own_w39)) (mvT hZ (hw _ own_w40)) (notFace_of_selects (args := #[]) (mvT hZ (hw _ own_w42))) (mvT hZ (hw _ own_w42)) (mvT hZ (hw _ own_w41)) (by decide) (backOf (W := 0) (own_rm_ta_oth l Z a0 hw G1 S1 P1 lA lT lS lB eP eD eF tN tT tP tQ tS tB B [] lB tB eD h227 n0 (Nat.le_trans Z0 (Nat.le_trans (Nat.le_trans (Nat.le_trans E200.1 (Nat.le_of_eq W201.size.symm)) (Nat.le_of_eq W202.size.symm)) E227.1)) XO228 B23 B25) hZ (hw _ own_w43) (hw _ own_w32) (by decide) (by decide)) q234a q234c (g := (mkF m 219 #[.val (.int p0), .val (.int p1), .val (.int p2), .val (.int p3), .val (.int (p0 &&& (3 : Int32))), .val (.ref eD), .val (.ref b200), .val (.int (p1 &&& (3 : Int32))), .val (.ref r227), .val (.ref lB), .val (.ref tB)] [(.ref eD), (.ref lB)])) rfl (by rw [hml]; rfl) (Steps.refl _) (argsL := [(.ref eD)]) (rest := []) (lenOf own_pd4 rfl) rfl (by show 2 * 0 + _ ≤ _; exact Nat.le_of_eq rfl) (hb hby at_219) (fun _ _ => ⟨rfl, e233, (by decide : 3 + 0 ≤ _), (by decide : 7 + 0 ≤ _)⟩)
              dsimp only [Pt.U, Pt.locs, Pt.cells, Pt.slots] at X234 l234 y234 z234 st234 hQ234
              subst l234 y234 z234
              obtain ⟨rfl, M234, e234⟩ := hQ234
              have N234 := Fr.app N229 M234
              refine own_tr (S' := T234.setTop (mkF m 222 #[.val (.int p0), .val (.int p1), .val (.int p2), .val (.int p3), .val (.int (p0 &&& (3 : Int32))), .val (.ref eD), .val (.ref b200), .val (.int (p1 &&& (3 : Int32))), .val (.ref r227), .val (.ref lB), .val (.ref tB)] [(.ref tB)])) st234 ?_
              refine own_st (S' := T234.setTop (mkF m 224 #[.val (.int p0), .val (.int p1), .val (.int p2), .val (.int p3), .val (.int (p0 &&& (3 : Int32))), .val (.ref eD), .val (.ref b200), .val (.int (p1 &&& (3 : Int32))), .val (.ref r227), .val (.ref lB), .val (.ref tB)] [(.ref tB), (.ref tB)])) (fun _ k => XS.aload X234.here hx rfl (hb hby at_222) rfl rfl k) ?_
              refine own_st (S' := T234.setTop (mkF m 227 #[.val (.int p0), .val (.int p1), .val (.int p2), .val (.int p3), .val (.int (p0 &&& (3 : Int32))), .val (.ref eD), .val (.ref b200), .val (.int (p1 &&& (3 : Int32))), .val (.ref r227), .val (.ref lB), .val (.ref tB)] [])) (fun _ k => Jvm.RoadKit.acmp (g := (mkF m 224 #[.val (.int p0), .val (.int p1), .val (.int p2), .val (.int p3), .val (.int (p0 &&& (3 : Int32))), .val (.ref eD), .val (.ref b200), .val (.int (p1 &&& (3 : Int32))), .val (.ref r227), .val (.ref lB), .val (.ref tB)] [(.ref tB), (.ref tB)])) X234 hx rfl rfl rfl (pc0 := 224) (pc' := 227) (same := true) rfl (hb hby at_224) rfl (decide_eq_true rfl) (by decide) (by decide) k) ?_
              refine own_st (S' := T234.setTop (mkF m 232 #[.val (.int p0), .val (.int p1), .val (.int p2), .val (.int p3), .val (.int (p0 &&& (3 : Int32))), .val (.ref eD), .val (.ref b200), .val (.int (p1 &&& (3 : Int32))), .val (.ref r227), .val (.ref lB), .val (.ref tB)] [(.int (1 : Int32))])) (fun _ k => XS.iconst X234.here hx rfl (hb hby at_227) (XS.goto X234.here hx rfl (pc0 := 228) (pc' := 232) rfl (hb hby at_228) (by decide) (by decide) k)) ?_
              refine own_retNW X234 hx Bd.returns hlk rfl (Or.inl ⟨rfl, (by simp), _, rfl⟩) (hb hby at_232) (by decide) (by decide) ?_
              rw [e234]
              exact ⟨rfl, N234⟩
            · refine own_st (S' := T202.setTop (mkF m 121 #[.val (.int p0), .val (.int p1), .val (.int p2), .val (.int p3), .val (.int (p0 &&& (3 : Int32))), .val (.ref eD), .val (.ref b200), .val (.int (p1 &&& (3 : Int32))), .unset, .unset, .unset] [])) (fun _ k => XS.icmpYes X202.here hx rfl (pc0 := 104) (pc' := 121) rfl (hb hby at_104) rfl (feq hc224).2 (by decide) (by decide) k) ?_
              obtain ⟨T236, h236, X236, e236, E236, A236, D236, -, st236⟩ := newO X202 hx hZ hown (hw _ own_w1) (hw _ own_w2) (hw _ own_w3) e202 (g := (mkF m 121 #[.val (.int p0), .val (.int p1), .val (.int p2), .val (.int p3), .val (.int (p0 &&& (3 : Int32))), .val (.ref eD), .val (.ref b200), .val (.int (p1 &&& (3 : Int32))), .unset, .unset, .unset] [])) rfl (hb hby at_121) (by decide) (by decide)
              obtain ⟨b236, g236⟩ : ∃ z, z = h202.size := ⟨_, rfl⟩
              rw [← g236] at A236 D236 st236
              refine own_st (S' := T236.setTop (mkF m 124 #[.val (.int p0), .val (.int p1), .val (.int p2), .val (.int p3), .val (.int (p0 &&& (3 : Int32))), .val (.ref eD), .val (.ref b200), .val (.int (p1 &&& (3 : Int32))), .unset, .unset, .unset] [(.ref b236)])) st236 ?_
              refine own_st (S' := T236.setTop (mkF m 127 #[.val (.int p0), .val (.int p1), .val (.int p2), .val (.int p3), .val (.int (p0 &&& (3 : Int32))), .val (.ref eD), .val (.ref b200), .val (.int (p1 &&& (3 : Int32))), .unset, .unset, .unset] [(.ref b200), (.ref b236), (.ref b236)])) (fun _ k => XS.dup X236.here hx rfl (hb hby at_124) rfl rfl (XS.aload X236.here hx rfl (hb hby at_125) rfl rfl k)) ?_
              have V237 : Arv Z h236 b200 k200 .char (2 : Int32) [(.int (nar .char ((p2 &&& (255 : Int32)).toUInt32.toUInt16.toUInt32.toInt32))), (.int (nar .char ((p3 &&& (255 : Int32)).toUInt32.toUInt16.toUInt32.toInt32)))] (.int (0 : Int32)) := (V202.ext E236)
              have XE238 : Ext h0 h236 := (own_xt (own_xw (own_xw E200 W201 (Nat.le_of_eq g200.symm)) W202 (Nat.le_of_eq g200.symm)) E236)
              have XO239 : Old Z n0 h236 := (XO.ext XE238)
              have S240 : Sta Z h236 "java/lang/String" "COMPACT_STRINGS" "Z" (.int G1) := (S1.ext XO239.2)
              obtain ⟨_, _, ⟨T241, L241, k241, n241⟩, -, X241, ⟨Lc241, hQ241, l241, y241, z241⟩, st241⟩ := X236.specialBack hx (y := (⟨"java/lang/String", "<init>", "([C)V"⟩ : MethodName)) rfl hown (mvT hZ (hw _ own_w4)) (mvT hZ (hw _ own_w5)) (mvT hZ (hw _ own_w6)) (by decide) (own_newB (W := 1) hZ hw (cs := [nar .char ((p2 &&& (255 : Int32)).toUInt32.toUInt16.toUInt32.toInt32), nar .char ((p3 &&& (255 : Int32)).toUInt32.toUInt16.toUInt32.toInt32)]) (n := 2) (n0 := n0) (Nat.le_trans Z0 (Nat.le_trans (Nat.le_trans (Nat.le_trans E200.1 (Nat.le_of_eq W201.size.symm)) (Nat.le_of_eq W202.size.symm)) (Nat.le_of_eq g236.symm))) (Nat.le_trans Z0 (Nat.le_trans (Nat.le_trans (Nat.le_trans E200.1 (Nat.le_of_eq W201.size.symm)) (Nat.le_of_eq W202.size.symm)) E236.1)) A236 (D236 (Or.inr (hw _ own_w29)) (ty := (.array .byte)) (by decide)) (D236 (Or.inr (hw _ own_w27)) (ty := .byte) (by decide)) V237 S240 P1 rfl rfl (by decide) (by decide) (own_hp2 p2 p3) (by decide) (by decide)) (g := (mkF m 127 #[.val (.int p0), .val (.int p1), .val (.int p2), .val (.int p3), .val (.int (p0 &&& (3 : Int32))), .val (.ref eD), .val (.ref b200), .val (.int (p1 &&& (3 : Int32))), .unset, .unset, .unset] [(.ref b200), (.ref b236), (.ref b236)])) rfl (by rw [hml]; rfl) (Steps.refl _) (a := b236) (argsL := [(.ref b200)]) (rest := [(.ref b236)]) (lenOf own_pd6 rfl) rfl (by show 2 * 0 + _ ≤ _; exact Nat.le_of_eq rfl) (hb hby at_127) (fun _ _ => ⟨rfl, e236, (by decide : 2 + 1 ≤ _), (by decide : 6 + 2 ≤ _)⟩)
              dsimp only [Pt.U, Pt.locs, Pt.cells, Pt.slots] at X241 l241 y241 z241 st241 hQ241
              subst l241 y241 z241
              obtain ⟨rfl, M241, K241, Y241⟩ := hQ241
              have N241 := Fr.app N202 M241
              obtain ⟨h241, e241⟩ : ∃ z, T241.heap = z := ⟨_, rfl⟩
              rw [e241] at K241 Y241
              refine own_tr (S' := T241.setTop (mkF m 130 #[.val (.int p0), .val (.int p1), .val (.int p2), .val (.int p3), .val (.int (p0 &&& (3 : Int32))), .val (.ref eD), .val (.ref b200), .val (.int (p1 &&& (3 : Int32))), .unset, .unset, .unset] [(.ref b236)])) st241 ?_
              refine own_st (S' := T241.setTop (mkF m 136 #[.val (.int p0), .val (.int p1), .val (.int p2), .val (.int p3), .val (.int (p0 &&& (3 : Int32))), .val (.ref eD), .val (.ref b200), .val (.int (p1 &&& (3 : Int32))), .val (.ref b236), .unset, .unset] [(.ref b236), (.ref eD)])) (fun _ k => XS.astore X241.here hx rfl (hb hby at_130) rfl rfl (l' := #[.val (.int p0), .val (.int p1), .val (.int p2), .val (.int p3), .val (.int (p0 &&& (3 : Int32))), .val (.ref eD), .val (.ref b200), .val (.int (p1 &&& (3 : Int32))), .val (.ref b236), .unset, .unset]) rfl (XS.aload X241.here hx rfl (hb hby at_132) rfl rfl (XS.aload X241.here hx rfl (hb hby at_134) rfl rfl k))) ?_
              have XO242 : Old Z n0 h241 := (XO239.keep K241 (allS (Nat.le_trans Z0 (Nat.le_trans (Nat.le_trans (Nat.le_trans E200.1 (Nat.le_of_eq W201.size.symm)) (Nat.le_of_eq W202.size.symm)) (Nat.le_of_eq g236.symm))) all0))
              obtain ⟨_, _, ⟨T243, L243, k243, n243⟩, -, X243, ⟨Lc243, hQ243, l243, y243, z243⟩, st243⟩ := Jvm.LawKit.callS X241 hx (y := (⟨"com/example/task_callbacks/taskcallbacks/event/Listing", "of", "(Lcom/example/task_callbacks/taskcallbacks/event/EventStatus;Ljava/lang/String;)Lcom/example/task_callbacks/taskcallbacks/event/Listing;"⟩ : MethodName)) hown (mvT hZ (hw _ own_w30)) (mvT hZ (hw _ own_w31)) (mvT hZ (hw _ own_w32)) (mvT hZ (hw _ own_w33)) (by decide) (backOf (W := 0) (own_rm_of11 l Z a0 hw G1 S1 P1 lA lT lS lB eP eD eF tN tT tP tQ tS tB B [] eD b236 h241 n0 (Nat.le_trans Z0 (Nat.le_trans (Nat.le_trans (Nat.le_trans (Nat.le_trans E200.1 (Nat.le_of_eq W201.size.symm)) (Nat.le_of_eq W202.size.symm)) E236.1) K241.1)) XO242 ) hZ (hw _ own_w33) (hw _ own_w32) (by decide) (by decide)) (g := (mkF m 136 #[.val (.int p0), .val (.int p1), .val (.int p2), .val (.int p3), .val (.int (p0 &&& (3 : Int32))), .val (.ref eD), .val (.ref b200), .val (.int (p1 &&& (3 : Int32))), .val (.ref b236), .unset, .unset] [(.ref b236), (.ref eD)])) rfl (by rw [hml]; rfl) (argsL := [(.ref eD), (.ref b236)]) (rest := []) (lenOf own_pd3 rfl) rfl (by show 2 * 0 + _ ≤ _; exact Nat.le_of_eq rfl) (hb hby at_136) (fun _ _ => ⟨rfl, e241, (by decide : 3 + 0 ≤ _), (by decide : 8 + 0 ≤ _)⟩)
              dsimp only [Pt.U, Pt.locs, Pt.cells, Pt.slots] at X243 l243 y243 z243 st243 hQ243
              subst l243 y243 z243
              obtain ⟨rfl, M243, e243⟩ := hQ243
              have N243 := Fr.app N241 M243
              refine own_st (S' := T243.setTop (mkF m 139 #[.val (.int p0), .val (.int p1), .val (.int p2), .val (.int p3), .val (.int (p0 &&& (3 : Int32))), .val (.ref eD), .val (.ref b200), .val (.int (p1 &&& (3 : Int32))), .val (.ref b236), .unset, .unset] [(.ref lB)])) st243 ?_
              refine own_st (S' := T243.setTop (mkF m 150 #[.val (.int p0), .val (.int p1), .val (.int p2), .val (.int p3), .val (.int (p0 &&& (3 : Int32))), .val (.ref eD), .val (.ref b200), .val (.int (p1 &&& (3 : Int32))), .val (.ref b236), .val (.ref lB), .unset] [(.ref eD)])) (fun _ k => XS.astore X243.here hx rfl (hb hby at_139) rfl rfl (l' := #[.val (.int p0), .val (.int p1), .val (.int p2), .val (.int p3), .val (.int (p0 &&& (3 : Int32))), .val (.ref eD), .val (.ref b200), .val (.int (p1 &&& (3 : Int32))), .val (.ref b236), .val (.ref lB), .unset]) rfl (XS.aload X243.here hx rfl (hb hby at_141) rfl rfl (XS.ifnonnullYes X243.here hx rfl (pc0 := 143) (pc' := 148) rfl (hb hby at_143) rfl (by decide) (by decide) (XS.aload X243.here hx rfl (hb hby at_148) rfl rfl k)))) ?_
              refine own_st (S' := T243.setTop (mkF m 174 #[.val (.int p0), .val (.int p1), .val (.int p2), .val (.int p3), .val (.int (p0 &&& (3 : Int32))), .val (.ref eD), .val (.ref b200), .val (.int (p1 &&& (3 : Int32))), .val (.ref b236), .val (.ref lB), .unset] [(.ref eD)])) (fun _ k => XS.ifnonnullYes X243.here hx rfl (pc0 := 150) (pc' := 172) rfl (hb hby at_150) rfl (by decide) (by decide) (XS.aload X243.here hx rfl (hb hby at_172) rfl rfl k)) ?_
              have S244 : Sta Z h241 "com/example/task_callbacks/taskcallbacks/event/EventStatus" "PENDING" "Lcom/example/task_callbacks/taskcallbacks/event/EventStatus;" (.ref eP) := (B4.ext XO242.2)
              obtain ⟨T245, X245, e245, st245⟩ := getS2 X243 hx hZ hown (host := "") (Or.inl (hw _ own_w53)) Via.refl e243 S244 (g := (mkF m 174 #[.val (.int p0), .val (.int p1), .val (.int p2), .val (.int p3), .val (.int (p0 &&& (3 : Int32))), .val (.ref eD), .val (.ref b200), .val (.int (p1 &&& (3 : Int32))), .val (.ref b236), .val (.ref lB), .unset] [(.ref eD)])) rfl (hb hby at_174)
              refine own_st (S' := T245.setTop (mkF m 177 #[.val (.int p0), .val (.int p1), .val (.int p2), .val (.int p3), .val (.int (p0 &&& (3 : Int32))), .val (.ref eD), .val (.ref b200), .val (.int (p1 &&& (3 : Int32))), .val (.ref b236), .val (.ref lB), .unset] [(.ref eP), (.ref eD)])) st245 ?_
              refine own_st (S' := T245.setTop (mkF m 199 #[.val (.int p0), .val (.int p1), .val (.int p2), .val (.int p3), .val (.int (p0 &&& (3 : Int32))), .val (.ref eD), .val (.ref b200), .val (.int (p1 &&& (3 : Int32))), .val (.ref b236), .val (.ref lB), .unset] [])) (fun _ k => Jvm.RoadKit.acmp (g := (mkF m 177 #[.val (.int p0), .val (.int p1), .val (.int p2), .val (.int p3), .val (.int (p0 &&& (3 : Int32))), .val (.ref eD), .val (.ref b200), .val (.int (p1 &&& (3 : Int32))), .val (.ref b236), .val (.ref lB), .unset] [(.ref eP), (.ref eD)])) X245 hx rfl rfl rfl (pc0 := 177) (pc' := 199) (same := false) rfl (hb hby at_177) rfl (decide_eq_false fun q => B25 (Value.ref.inj q)) (by decide) (by decide) k) ?_
              refine own_st (S' := T245.setTop (mkF m 210 #[.val (.int p0), .val (.int p1), .val (.int p2), .val (.int p3), .val (.int (p0 &&& (3 : Int32))), .val (.ref eD), .val (.ref b200), .val (.int (p1 &&& (3 : Int32))), .val (.ref b236), .val (.ref lB), .unset] [])) (fun _ k => XS.aload X245.here hx rfl (hb hby at_199) rfl rfl (XS.ifnonnullYes X245.here hx rfl (pc0 := 201) (pc' := 210) rfl (hb hby at_201) rfl (by decide) (by decide) k)) ?_
              have S246 : Sta Z h241 "com/example/task_callbacks/taskcallbacks/store/Table" "EVENTS_BY_STATUS_AND_TYPE" "Lcom/example/task_callbacks/taskcallbacks/store/Table;" (.ref tB) := (B12.ext XO242.2)
              obtain ⟨T247, X247, e247, st247⟩ := getS2 X245 hx hZ hown (host := "") (Or.inl (hw _ own_w54)) Via.refl e245 S246 (g := (mkF m 210 #[.val (.int p0), .val (.int p1), .val (.int p2), .val (.int p3), .val (.int (p0 &&& (3 : Int32))), .val (.ref eD), .val (.ref b200), .val (.int (p1 &&& (3 : Int32))), .val (.ref b236), .val (.ref lB), .unset] [])) rfl (hb hby at_210)
              refine own_st (S' := T247.setTop (mkF m 213 #[.val (.int p0), .val (.int p1), .val (.int p2), .val (.int p3), .val (.int (p0 &&& (3 : Int32))), .val (.ref eD), .val (.ref b200), .val (.int (p1 &&& (3 : Int32))), .val (.ref b236), .val (.ref lB), .unset] [(.ref tB)])) st247 ?_
              refine own_st (S' := T247.setTop (mkF m 219 #[.val (.int p0), .val (.int p1), .val (.int p2), .val (.int p3), .val (.int (p0 &&& (3 : Int32))), .val (.ref eD), .val (.ref b200), .val (.int (p1 &&& (3 : Int32))), .val (.ref b236), .val (.ref lB), .val (.ref tB)] [(.ref eD), (.ref lB)])) (fun _ k => XS.astore X247.here hx rfl (hb hby at_213) rfl rfl (l' := #[.val (.int p0), .val (.int p1), .val (.int p2), .val (.int p3), .val (.int (p0 &&& (3 : Int32))), .val (.ref eD), .val (.ref b200), .val (.int (p1 &&& (3 : Int32))), .val (.ref b236), .val (.ref lB), .val (.ref tB)]) rfl (XS.aload X247.here hx rfl (hb hby at_215) rfl rfl (XS.aload X247.here hx rfl (hb hby at_217) rfl rfl k))) ?_
              have A249 : Exa Z h241 lB "com/example/task_callbacks/taskcallbacks/event/Listing" := (B16.ext XO242.2)
              obtain ⟨cq248, kq248, q248a, q248b, q248c⟩ := isOf hZ e247 A249
              obtain ⟨_, _, ⟨T248, L248, k248, n248⟩, -, X248, ⟨Lc248, hQ248, l248, y248, z248⟩, st248⟩ := X247.virtualBack hx (y := (⟨"com/example/task_callbacks/taskcallbacks/event/Listing", "table", "(Lcom/example/task_callbacks/taskcallbacks/event/EventStatus;)Lcom/example/task_callbacks/taskcallbacks/store/Table;"⟩ : MethodName)) (z := (⟨"com/example/task_callbacks/taskcallbacks/event/Listing", "table", "(Lcom/example/task_callbacks/taskcallbacks/event/EventStatus;)Lcom/example/task_callbacks/taskcallbacks/store/Table;"⟩ : MethodName)) hown (mvT hZ (hw _ own_w39)) (mvT hZ (hw _ own_w40)) (notFace_of_selects (args := #[]) (mvT hZ (hw _ own_w42))) (mvT hZ (hw _ own_w42)) (mvT hZ (hw _ own_w41)) (by decide) (backOf (W := 0) (own_rm_ta_oth l Z a0 hw G1 S1 P1 lA lT lS lB eP eD eF tN tT tP tQ tS tB B [] lB tB eD h241 n0 (Nat.le_trans Z0 (Nat.le_trans (Nat.le_trans (Nat.le_trans (Nat.le_trans E200.1 (Nat.le_of_eq W201.size.symm)) (Nat.le_of_eq W202.size.symm)) E236.1) K241.1)) XO242 B23 B25) hZ (hw _ own_w43) (hw _ own_w32) (by decide) (by decide)) q248a q248c (g := (mkF m 219 #[.val (.int p0), .val (.int p1), .val (.int p2), .val (.int p3), .val (.int (p0 &&& (3 : Int32))), .val (.ref eD), .val (.ref b200), .val (.int (p1 &&& (3 : Int32))), .val (.ref b236), .val (.ref lB), .val (.ref tB)] [(.ref eD), (.ref lB)])) rfl (by rw [hml]; rfl) (Steps.refl _) (argsL := [(.ref eD)]) (rest := []) (lenOf own_pd4 rfl) rfl (by show 2 * 0 + _ ≤ _; exact Nat.le_of_eq rfl) (hb hby at_219) (fun _ _ => ⟨rfl, e247, (by decide : 3 + 0 ≤ _), (by decide : 8 + 0 ≤ _)⟩)
              dsimp only [Pt.U, Pt.locs, Pt.cells, Pt.slots] at X248 l248 y248 z248 st248 hQ248
              subst l248 y248 z248
              obtain ⟨rfl, M248, e248⟩ := hQ248
              have N248 := Fr.app N243 M248
              refine own_tr (S' := T248.setTop (mkF m 222 #[.val (.int p0), .val (.int p1), .val (.int p2), .val (.int p3), .val (.int (p0 &&& (3 : Int32))), .val (.ref eD), .val (.ref b200), .val (.int (p1 &&& (3 : Int32))), .val (.ref b236), .val (.ref lB), .val (.ref tB)] [(.ref tB)])) st248 ?_
              refine own_st (S' := T248.setTop (mkF m 224 #[.val (.int p0), .val (.int p1), .val (.int p2), .val (.int p3), .val (.int (p0 &&& (3 : Int32))), .val (.ref eD), .val (.ref b200), .val (.int (p1 &&& (3 : Int32))), .val (.ref b236), .val (.ref lB), .val (.ref tB)] [(.ref tB), (.ref tB)])) (fun _ k => XS.aload X248.here hx rfl (hb hby at_222) rfl rfl k) ?_
              refine own_st (S' := T248.setTop (mkF m 227 #[.val (.int p0), .val (.int p1), .val (.int p2), .val (.int p3), .val (.int (p0 &&& (3 : Int32))), .val (.ref eD), .val (.ref b200), .val (.int (p1 &&& (3 : Int32))), .val (.ref b236), .val (.ref lB), .val (.ref tB)] [])) (fun _ k => Jvm.RoadKit.acmp (g := (mkF m 224 #[.val (.int p0), .val (.int p1), .val (.int p2), .val (.int p3), .val (.int (p0 &&& (3 : Int32))), .val (.ref eD), .val (.ref b200), .val (.int (p1 &&& (3 : Int32))), .val (.ref b236), .val (.ref lB), .val (.ref tB)] [(.ref tB), (.ref tB)])) X248 hx rfl rfl rfl (pc0 := 224) (pc' := 227) (same := true) rfl (hb hby at_224) rfl (decide_eq_true rfl) (by decide) (by decide) k) ?_
              refine own_st (S' := T248.setTop (mkF m 232 #[.val (.int p0), .val (.int p1), .val (.int p2), .val (.int p3), .val (.int (p0 &&& (3 : Int32))), .val (.ref eD), .val (.ref b200), .val (.int (p1 &&& (3 : Int32))), .val (.ref b236), .val (.ref lB), .val (.ref tB)] [(.int (1 : Int32))])) (fun _ k => XS.iconst X248.here hx rfl (hb hby at_227) (XS.goto X248.here hx rfl (pc0 := 228) (pc' := 232) rfl (hb hby at_228) (by decide) (by decide) k)) ?_
              refine own_retNW X248 hx Bd.returns hlk rfl (Or.inl ⟨rfl, (by simp), _, rfl⟩) (hb hby at_232) (by decide) (by decide) ?_
              rw [e248]
              exact ⟨rfl, N248⟩
      · refine own_st (S' := s₁.setTop (mkF m 44 #[.val (.int p0), .val (.int p1), .val (.int p2), .val (.int p3), .val (.int (p0 &&& (3 : Int32))), .unset, .unset, .unset, .unset, .unset, .unset] [])) (fun _ k => XS.icmpYes X0.here hx rfl (pc0 := 33) (pc' := 44) rfl (hb hby at_33) rfl (feq hc197).2 (by decide) (by decide) k) ?_
        have S250 : Sta Z h0 "com/example/task_callbacks/taskcallbacks/event/EventStatus" "FAILED" "Lcom/example/task_callbacks/taskcallbacks/event/EventStatus;" (.ref eF) := (B6.ext XO.2)
        obtain ⟨T251, X251, e251, st251⟩ := getS2 X0 hx hZ hown (host := "") (Or.inl (hw _ own_w49)) Via.refl e0 S250 (g := (mkF m 44 #[.val (.int p0), .val (.int p1), .val (.int p2), .val (.int p3), .val (.int (p0 &&& (3 : Int32))), .unset, .unset, .unset, .unset, .unset, .unset] [])) rfl (hb hby at_44)
        refine own_st (S' := T251.setTop (mkF m 47 #[.val (.int p0), .val (.int p1), .val (.int p2), .val (.int p3), .val (.int (p0 &&& (3 : Int32))), .unset, .unset, .unset, .unset, .unset, .unset] [(.ref eF)])) st251 ?_
        refine own_st (S' := T251.setTop (mkF m 50 #[.val (.int p0), .val (.int p1), .val (.int p2), .val (.int p3), .val (.int (p0 &&& (3 : Int32))), .val (.ref eF), .unset, .unset, .unset, .unset, .unset] [(.int (2 : Int32))])) (fun _ k => XS.astore X251.here hx rfl (hb hby at_47) rfl rfl (l' := #[.val (.int p0), .val (.int p1), .val (.int p2), .val (.int p3), .val (.int (p0 &&& (3 : Int32))), .val (.ref eF), .unset, .unset, .unset, .unset, .unset]) rfl (XS.iconst X251.here hx rfl (hb hby at_49) k)) ?_
        obtain ⟨T252, h252, k252, X252, e252, E252, A252, AE252, st252⟩ := newPE X251 hx hZ (aty := .char) (hw _ own_w0) e251 (g := (mkF m 50 #[.val (.int p0), .val (.int p1), .val (.int p2), .val (.int p3), .val (.int (p0 &&& (3 : Int32))), .val (.ref eF), .unset, .unset, .unset, .unset, .unset] [(.int (2 : Int32))])) rfl (hb hby at_50) rfl (by decide) (cap := 2) (by decide) (by decide) (by decide) (by decide) (ad := "[C") (by decide)
        obtain ⟨b252, g252⟩ : ∃ z, z = h0.size := ⟨_, rfl⟩
        rw [← g252] at A252 AE252 st252
        have V252 : Arv Z h252 b252 k252 .char (2 : Int32) [(.int (0 : Int32)), (.int (0 : Int32))] (.int (0 : Int32)) := (Arv.new A252 (by decide)).pad (pad_rep [] (.int (0 : Int32)) 2)
        refine own_st (S' := T252.setTop (mkF m 52 #[.val (.int p0), .val (.int p1), .val (.int p2), .val (.int p3), .val (.int (p0 &&& (3 : Int32))), .val (.ref eF), .unset, .unset, .unset, .unset, .unset] [(.ref b252)])) st252 ?_
        refine own_st (S' := T252.setTop (mkF m 58 #[.val (.int p0), .val (.int p1), .val (.int p2), .val (.int p3), .val (.int (p0 &&& (3 : Int32))), .val (.ref eF), .unset, .unset, .unset, .unset, .unset] [(.int (255 : Int32)), (.int p2), (.int (0 : Int32)), (.ref b252), (.ref b252)])) (fun _ k => XS.dup X252.here hx rfl (hb hby at_52) rfl rfl (XS.iconst X252.here hx rfl (hb hby at_53) (XS.iloadN X252.here hx rfl (hb hby at_54) rfl (XS.sipush X252.here hx rfl (hb hby at_55) k)))) ?_
        refine own_st (S' := T252.setTop (mkF m 60 #[.val (.int p0), .val (.int p1), .val (.int p2), .val (.int p3), .val (.int (p0 &&& (3 : Int32))), .val (.ref eF), .unset, .unset, .unset, .unset, .unset] [(.int ((p2 &&& (255 : Int32)).toUInt32.toUInt16.toUInt32.toInt32)), (.int (0 : Int32)), (.ref b252), (.ref b252)])) (fun _ k => XS.iand X252.here hx rfl (hb hby at_58) rfl (XS.i2c X252.here hx rfl (hb hby at_59) rfl k)) ?_
        obtain ⟨c253, A253, q253, S253, M253, H253, U253⟩ := id V252
        obtain ⟨T253, h253, X253, e253, W253, st253⟩ := stC X252 hx hZ e252 A253 (j := (0 : Int32)) (inb_of S253 ⟨by decide, by decide⟩) (g := (mkF m 60 #[.val (.int p0), .val (.int p1), .val (.int p2), .val (.int p3), .val (.int (p0 &&& (3 : Int32))), .val (.ref eF), .unset, .unset, .unset, .unset, .unset] [(.int ((p2 &&& (255 : Int32)).toUInt32.toUInt16.toUInt32.toInt32)), (.int (0 : Int32)), (.ref b252), (.ref b252)])) rfl rfl (hb hby at_60)
        have N253 := Fr.snoc X253 N0 (Nat.le_trans Z0 (Nat.le_of_eq g252.symm))
        have V253 : Arv Z h253 b252 k252 .char (2 : Int32) [(.int (nar .char ((p2 &&& (255 : Int32)).toUInt32.toUInt16.toUInt32.toInt32))), (.int (0 : Int32))] (.int (0 : Int32)) := Arv.set A253 q253 S253 M253 H253 U253 (fits_nar_char _) W253 0 rfl (Nat.le_of_ble_eq_true rfl)
        refine own_st (S' := T253.setTop (mkF m 61 #[.val (.int p0), .val (.int p1), .val (.int p2), .val (.int p3), .val (.int (p0 &&& (3 : Int32))), .val (.ref eF), .unset, .unset, .unset, .unset, .unset] [(.ref b252)])) st253 ?_
        refine own_st (S' := T253.setTop (mkF m 67 #[.val (.int p0), .val (.int p1), .val (.int p2), .val (.int p3), .val (.int (p0 &&& (3 : Int32))), .val (.ref eF), .unset, .unset, .unset, .unset, .unset] [(.int (255 : Int32)), (.int p3), (.int (1 : Int32)), (.ref b252), (.ref b252)])) (fun _ k => XS.dup X253.here hx rfl (hb hby at_61) rfl rfl (XS.iconst X253.here hx rfl (hb hby at_62) (XS.iloadN X253.here hx rfl (hb hby at_63) rfl (XS.sipush X253.here hx rfl (hb hby at_64) k)))) ?_
        refine own_st (S' := T253.setTop (mkF m 69 #[.val (.int p0), .val (.int p1), .val (.int p2), .val (.int p3), .val (.int (p0 &&& (3 : Int32))), .val (.ref eF), .unset, .unset, .unset, .unset, .unset] [(.int ((p3 &&& (255 : Int32)).toUInt32.toUInt16.toUInt32.toInt32)), (.int (1 : Int32)), (.ref b252), (.ref b252)])) (fun _ k => XS.iand X253.here hx rfl (hb hby at_67) rfl (XS.i2c X253.here hx rfl (hb hby at_68) rfl k)) ?_
        obtain ⟨c254, A254, q254, S254, M254, H254, U254⟩ := id V253
        obtain ⟨T254, h254, X254, e254, W254, st254⟩ := stC X253 hx hZ e253 A254 (j := (1 : Int32)) (inb_of S254 ⟨by decide, by decide⟩) (g := (mkF m 69 #[.val (.int p0), .val (.int p1), .val (.int p2), .val (.int p3), .val (.int (p0 &&& (3 : Int32))), .val (.ref eF), .unset, .unset, .unset, .unset, .unset] [(.int ((p3 &&& (255 : Int32)).toUInt32.toUInt16.toUInt32.toInt32)), (.int (1 : Int32)), (.ref b252), (.ref b252)])) rfl rfl (hb hby at_69)
        have N254 := Fr.snoc X254 N253 (Nat.le_trans Z0 (Nat.le_of_eq g252.symm))
        have V254 : Arv Z h254 b252 k252 .char (2 : Int32) [(.int (nar .char ((p2 &&& (255 : Int32)).toUInt32.toUInt16.toUInt32.toInt32))), (.int (nar .char ((p3 &&& (255 : Int32)).toUInt32.toUInt16.toUInt32.toInt32)))] (.int (0 : Int32)) := Arv.set A254 q254 S254 M254 H254 U254 (fits_nar_char _) W254 1 rfl (Nat.le_of_ble_eq_true rfl)
        refine own_st (S' := T254.setTop (mkF m 70 #[.val (.int p0), .val (.int p1), .val (.int p2), .val (.int p3), .val (.int (p0 &&& (3 : Int32))), .val (.ref eF), .unset, .unset, .unset, .unset, .unset] [(.ref b252)])) st254 ?_
        refine own_st (S' := T254.setTop (mkF m 75 #[.val (.int p0), .val (.int p1), .val (.int p2), .val (.int p3), .val (.int (p0 &&& (3 : Int32))), .val (.ref eF), .val (.ref b252), .unset, .unset, .unset, .unset] [(.int (p1 &&& (3 : Int32)))])) (fun _ k => XS.astore X254.here hx rfl (hb hby at_70) rfl rfl (l' := #[.val (.int p0), .val (.int p1), .val (.int p2), .val (.int p3), .val (.int (p0 &&& (3 : Int32))), .val (.ref eF), .val (.ref b252), .unset, .unset, .unset, .unset]) rfl (XS.iloadN X254.here hx rfl (hb hby at_72) rfl (XS.iconst X254.here hx rfl (hb hby at_73) (XS.iand X254.here hx rfl (hb hby at_74) rfl k)))) ?_
        refine own_st (S' := T254.setTop (mkF m 79 #[.val (.int p0), .val (.int p1), .val (.int p2), .val (.int p3), .val (.int (p0 &&& (3 : Int32))), .val (.ref eF), .val (.ref b252), .val (.int (p1 &&& (3 : Int32))), .unset, .unset, .unset] [(.int (p1 &&& (3 : Int32)))])) (fun _ k => XS.istore X254.here hx rfl (hb hby at_75) rfl (l' := #[.val (.int p0), .val (.int p1), .val (.int p2), .val (.int p3), .val (.int (p0 &&& (3 : Int32))), .val (.ref eF), .val (.ref b252), .val (.int (p1 &&& (3 : Int32))), .unset, .unset, .unset]) rfl (XS.iload X254.here hx rfl (hb hby at_77) rfl k)) ?_
        by_cases hc255 : (p1 &&& (3 : Int32)) = (0 : Int32)
        · refine own_st (S' := T254.setTop (mkF m 132 #[.val (.int p0), .val (.int p1), .val (.int p2), .val (.int p3), .val (.int (p0 &&& (3 : Int32))), .val (.ref eF), .val (.ref b252), .val (.int (p1 &&& (3 : Int32))), .val .null, .unset, .unset] [])) (fun _ k => XS.ifNo X254.here hx rfl (hb hby at_79) rfl ((if0 _ _).trans (teq hc255).2) (XS.aconstNull X254.here hx rfl (hb hby at_82) (XS.astore X254.here hx rfl (hb hby at_83) rfl rfl (l' := #[.val (.int p0), .val (.int p1), .val (.int p2), .val (.int p3), .val (.int (p0 &&& (3 : Int32))), .val (.ref eF), .val (.ref b252), .val (.int (p1 &&& (3 : Int32))), .val .null, .unset, .unset]) rfl (XS.goto X254.here hx rfl (pc0 := 85) (pc' := 132) rfl (hb hby at_85) (by decide) (by decide) k)))) ?_
          refine own_st (S' := T254.setTop (mkF m 136 #[.val (.int p0), .val (.int p1), .val (.int p2), .val (.int p3), .val (.int (p0 &&& (3 : Int32))), .val (.ref eF), .val (.ref b252), .val (.int (p1 &&& (3 : Int32))), .val .null, .unset, .unset] [.null, (.ref eF)])) (fun _ k => XS.aload X254.here hx rfl (hb hby at_132) rfl rfl (XS.aload X254.here hx rfl (hb hby at_134) rfl rfl k)) ?_
          have XE256 : Ext h0 h254 := (own_xw (own_xw E252 W253 (Nat.le_of_eq g252.symm)) W254 (Nat.le_of_eq g252.symm))
          have XO257 : Old Z n0 h254 := (XO.ext XE256)
          obtain ⟨_, _, ⟨T258, L258, k258, n258⟩, -, X258, ⟨Lc258, hQ258, l258, y258, z258⟩, st258⟩ := Jvm.LawKit.callS X254 hx (y := (⟨"com/example/task_callbacks/taskcallbacks/event/Listing", "of", "(Lcom/example/task_callbacks/taskcallbacks/event/EventStatus;Ljava/lang/String;)Lcom/example/task_callbacks/taskcallbacks/event/Listing;"⟩ : MethodName)) hown (mvT hZ (hw _ own_w30)) (mvT hZ (hw _ own_w31)) (mvT hZ (hw _ own_w32)) (mvT hZ (hw _ own_w33)) (by decide) (backOf (W := 0) (own_rm_of10 l Z a0 hw G1 S1 P1 lA lT lS lB eP eD eF tN tT tP tQ tS tB B [] eF h254 n0 (Nat.le_trans Z0 (Nat.le_trans (Nat.le_trans E252.1 (Nat.le_of_eq W253.size.symm)) (Nat.le_of_eq W254.size.symm))) XO257 ) hZ (hw _ own_w33) (hw _ own_w32) (by decide) (by decide)) (g := (mkF m 136 #[.val (.int p0), .val (.int p1), .val (.int p2), .val (.int p3), .val (.int (p0 &&& (3 : Int32))), .val (.ref eF), .val (.ref b252), .val (.int (p1 &&& (3 : Int32))), .val .null, .unset, .unset] [.null, (.ref eF)])) rfl (by rw [hml]; rfl) (argsL := [(.ref eF), .null]) (rest := []) (lenOf own_pd3 rfl) rfl (by show 2 * 0 + _ ≤ _; exact Nat.le_of_eq rfl) (hb hby at_136) (fun _ _ => ⟨rfl, e254, (by decide : 1 + 0 ≤ _), (by decide : 2 + 0 ≤ _)⟩)
          dsimp only [Pt.U, Pt.locs, Pt.cells, Pt.slots] at X258 l258 y258 z258 st258 hQ258
          subst l258 y258 z258
          obtain ⟨rfl, M258, e258⟩ := hQ258
          have N258 := Fr.app N254 M258
          refine own_st (S' := T258.setTop (mkF m 139 #[.val (.int p0), .val (.int p1), .val (.int p2), .val (.int p3), .val (.int (p0 &&& (3 : Int32))), .val (.ref eF), .val (.ref b252), .val (.int (p1 &&& (3 : Int32))), .val .null, .unset, .unset] [(.ref lS)])) st258 ?_
          refine own_st (S' := T258.setTop (mkF m 150 #[.val (.int p0), .val (.int p1), .val (.int p2), .val (.int p3), .val (.int (p0 &&& (3 : Int32))), .val (.ref eF), .val (.ref b252), .val (.int (p1 &&& (3 : Int32))), .val .null, .val (.ref lS), .unset] [(.ref eF)])) (fun _ k => XS.astore X258.here hx rfl (hb hby at_139) rfl rfl (l' := #[.val (.int p0), .val (.int p1), .val (.int p2), .val (.int p3), .val (.int (p0 &&& (3 : Int32))), .val (.ref eF), .val (.ref b252), .val (.int (p1 &&& (3 : Int32))), .val .null, .val (.ref lS), .unset]) rfl (XS.aload X258.here hx rfl (hb hby at_141) rfl rfl (XS.ifnonnullYes X258.here hx rfl (pc0 := 143) (pc' := 148) rfl (hb hby at_143) rfl (by decide) (by decide) (XS.aload X258.here hx rfl (hb hby at_148) rfl rfl k)))) ?_
          refine own_st (S' := T258.setTop (mkF m 174 #[.val (.int p0), .val (.int p1), .val (.int p2), .val (.int p3), .val (.int (p0 &&& (3 : Int32))), .val (.ref eF), .val (.ref b252), .val (.int (p1 &&& (3 : Int32))), .val .null, .val (.ref lS), .unset] [(.ref eF)])) (fun _ k => XS.ifnonnullYes X258.here hx rfl (pc0 := 150) (pc' := 172) rfl (hb hby at_150) rfl (by decide) (by decide) (XS.aload X258.here hx rfl (hb hby at_172) rfl rfl k)) ?_
          have S259 : Sta Z h254 "com/example/task_callbacks/taskcallbacks/event/EventStatus" "PENDING" "Lcom/example/task_callbacks/taskcallbacks/event/EventStatus;" (.ref eP) := (B4.ext XO257.2)
          obtain ⟨T260, X260, e260, st260⟩ := getS2 X258 hx hZ hown (host := "") (Or.inl (hw _ own_w53)) Via.refl e258 S259 (g := (mkF m 174 #[.val (.int p0), .val (.int p1), .val (.int p2), .val (.int p3), .val (.int (p0 &&& (3 : Int32))), .val (.ref eF), .val (.ref b252), .val (.int (p1 &&& (3 : Int32))), .val .null, .val (.ref lS), .unset] [(.ref eF)])) rfl (hb hby at_174)
          refine own_st (S' := T260.setTop (mkF m 177 #[.val (.int p0), .val (.int p1), .val (.int p2), .val (.int p3), .val (.int (p0 &&& (3 : Int32))), .val (.ref eF), .val (.ref b252), .val (.int (p1 &&& (3 : Int32))), .val .null, .val (.ref lS), .unset] [(.ref eP), (.ref eF)])) st260 ?_
          refine own_st (S' := T260.setTop (mkF m 199 #[.val (.int p0), .val (.int p1), .val (.int p2), .val (.int p3), .val (.int (p0 &&& (3 : Int32))), .val (.ref eF), .val (.ref b252), .val (.int (p1 &&& (3 : Int32))), .val .null, .val (.ref lS), .unset] [])) (fun _ k => Jvm.RoadKit.acmp (g := (mkF m 177 #[.val (.int p0), .val (.int p1), .val (.int p2), .val (.int p3), .val (.int (p0 &&& (3 : Int32))), .val (.ref eF), .val (.ref b252), .val (.int (p1 &&& (3 : Int32))), .val .null, .val (.ref lS), .unset] [(.ref eP), (.ref eF)])) X260 hx rfl rfl rfl (pc0 := 177) (pc' := 199) (same := false) rfl (hb hby at_177) rfl (decide_eq_false fun q => B26 (Value.ref.inj q)) (by decide) (by decide) k) ?_
          refine own_st (S' := T260.setTop (mkF m 204 #[.val (.int p0), .val (.int p1), .val (.int p2), .val (.int p3), .val (.int (p0 &&& (3 : Int32))), .val (.ref eF), .val (.ref b252), .val (.int (p1 &&& (3 : Int32))), .val .null, .val (.ref lS), .unset] [])) (fun _ k => XS.aload X260.here hx rfl (hb hby at_199) rfl rfl (XS.ifnonnullNo X260.here hx rfl (hb hby at_201) rfl k)) ?_
          have S261 : Sta Z h254 "com/example/task_callbacks/taskcallbacks/store/Table" "EVENTS_BY_STATUS" "Lcom/example/task_callbacks/taskcallbacks/store/Table;" (.ref tS) := (B11.ext XO257.2)
          obtain ⟨T262, X262, e262, st262⟩ := getS2 X260 hx hZ hown (host := "") (Or.inl (hw _ own_w87)) Via.refl e260 S261 (g := (mkF m 204 #[.val (.int p0), .val (.int p1), .val (.int p2), .val (.int p3), .val (.int (p0 &&& (3 : Int32))), .val (.ref eF), .val (.ref b252), .val (.int (p1 &&& (3 : Int32))), .val .null, .val (.ref lS), .unset] [])) rfl (hb hby at_204)
          refine own_st (S' := T262.setTop (mkF m 207 #[.val (.int p0), .val (.int p1), .val (.int p2), .val (.int p3), .val (.int (p0 &&& (3 : Int32))), .val (.ref eF), .val (.ref b252), .val (.int (p1 &&& (3 : Int32))), .val .null, .val (.ref lS), .unset] [(.ref tS)])) st262 ?_
          refine own_st (S' := T262.setTop (mkF m 219 #[.val (.int p0), .val (.int p1), .val (.int p2), .val (.int p3), .val (.int (p0 &&& (3 : Int32))), .val (.ref eF), .val (.ref b252), .val (.int (p1 &&& (3 : Int32))), .val .null, .val (.ref lS), .val (.ref tS)] [(.ref eF), (.ref lS)])) (fun _ k => XS.goto X262.here hx rfl (pc0 := 207) (pc' := 213) rfl (hb hby at_207) (by decide) (by decide) (XS.astore X262.here hx rfl (hb hby at_213) rfl rfl (l' := #[.val (.int p0), .val (.int p1), .val (.int p2), .val (.int p3), .val (.int (p0 &&& (3 : Int32))), .val (.ref eF), .val (.ref b252), .val (.int (p1 &&& (3 : Int32))), .val .null, .val (.ref lS), .val (.ref tS)]) rfl (XS.aload X262.here hx rfl (hb hby at_215) rfl rfl (XS.aload X262.here hx rfl (hb hby at_217) rfl rfl k)))) ?_
          have A264 : Exa Z h254 lS "com/example/task_callbacks/taskcallbacks/event/Listing" := (B15.ext XO257.2)
          obtain ⟨cq263, kq263, q263a, q263b, q263c⟩ := isOf hZ e262 A264
          obtain ⟨_, _, ⟨T263, L263, k263, n263⟩, -, X263, ⟨Lc263, hQ263, l263, y263, z263⟩, st263⟩ := X262.virtualBack hx (y := (⟨"com/example/task_callbacks/taskcallbacks/event/Listing", "table", "(Lcom/example/task_callbacks/taskcallbacks/event/EventStatus;)Lcom/example/task_callbacks/taskcallbacks/store/Table;"⟩ : MethodName)) (z := (⟨"com/example/task_callbacks/taskcallbacks/event/Listing", "table", "(Lcom/example/task_callbacks/taskcallbacks/event/EventStatus;)Lcom/example/task_callbacks/taskcallbacks/store/Table;"⟩ : MethodName)) hown (mvT hZ (hw _ own_w39)) (mvT hZ (hw _ own_w40)) (notFace_of_selects (args := #[]) (mvT hZ (hw _ own_w42))) (mvT hZ (hw _ own_w42)) (mvT hZ (hw _ own_w41)) (by decide) (backOf (W := 0) (own_rm_ta_oth l Z a0 hw G1 S1 P1 lA lT lS lB eP eD eF tN tT tP tQ tS tB B [] lS tS eF h254 n0 (Nat.le_trans Z0 (Nat.le_trans (Nat.le_trans E252.1 (Nat.le_of_eq W253.size.symm)) (Nat.le_of_eq W254.size.symm))) XO257 B21 B26) hZ (hw _ own_w43) (hw _ own_w32) (by decide) (by decide)) q263a q263c (g := (mkF m 219 #[.val (.int p0), .val (.int p1), .val (.int p2), .val (.int p3), .val (.int (p0 &&& (3 : Int32))), .val (.ref eF), .val (.ref b252), .val (.int (p1 &&& (3 : Int32))), .val .null, .val (.ref lS), .val (.ref tS)] [(.ref eF), (.ref lS)])) rfl (by rw [hml]; rfl) (Steps.refl _) (argsL := [(.ref eF)]) (rest := []) (lenOf own_pd4 rfl) rfl (by show 2 * 0 + _ ≤ _; exact Nat.le_of_eq rfl) (hb hby at_219) (fun _ _ => ⟨rfl, e262, (by decide : 1 + 0 ≤ _), (by decide : 2 + 0 ≤ _)⟩)
          dsimp only [Pt.U, Pt.locs, Pt.cells, Pt.slots] at X263 l263 y263 z263 st263 hQ263
          subst l263 y263 z263
          obtain ⟨rfl, M263, e263⟩ := hQ263
          have N263 := Fr.app N258 M263
          refine own_tr (S' := T263.setTop (mkF m 222 #[.val (.int p0), .val (.int p1), .val (.int p2), .val (.int p3), .val (.int (p0 &&& (3 : Int32))), .val (.ref eF), .val (.ref b252), .val (.int (p1 &&& (3 : Int32))), .val .null, .val (.ref lS), .val (.ref tS)] [(.ref tS)])) st263 ?_
          refine own_st (S' := T263.setTop (mkF m 224 #[.val (.int p0), .val (.int p1), .val (.int p2), .val (.int p3), .val (.int (p0 &&& (3 : Int32))), .val (.ref eF), .val (.ref b252), .val (.int (p1 &&& (3 : Int32))), .val .null, .val (.ref lS), .val (.ref tS)] [(.ref tS), (.ref tS)])) (fun _ k => XS.aload X263.here hx rfl (hb hby at_222) rfl rfl k) ?_
          refine own_st (S' := T263.setTop (mkF m 227 #[.val (.int p0), .val (.int p1), .val (.int p2), .val (.int p3), .val (.int (p0 &&& (3 : Int32))), .val (.ref eF), .val (.ref b252), .val (.int (p1 &&& (3 : Int32))), .val .null, .val (.ref lS), .val (.ref tS)] [])) (fun _ k => Jvm.RoadKit.acmp (g := (mkF m 224 #[.val (.int p0), .val (.int p1), .val (.int p2), .val (.int p3), .val (.int (p0 &&& (3 : Int32))), .val (.ref eF), .val (.ref b252), .val (.int (p1 &&& (3 : Int32))), .val .null, .val (.ref lS), .val (.ref tS)] [(.ref tS), (.ref tS)])) X263 hx rfl rfl rfl (pc0 := 224) (pc' := 227) (same := true) rfl (hb hby at_224) rfl (decide_eq_true rfl) (by decide) (by decide) k) ?_
          refine own_st (S' := T263.setTop (mkF m 232 #[.val (.int p0), .val (.int p1), .val (.int p2), .val (.int p3), .val (.int (p0 &&& (3 : Int32))), .val (.ref eF), .val (.ref b252), .val (.int (p1 &&& (3 : Int32))), .val .null, .val (.ref lS), .val (.ref tS)] [(.int (1 : Int32))])) (fun _ k => XS.iconst X263.here hx rfl (hb hby at_227) (XS.goto X263.here hx rfl (pc0 := 228) (pc' := 232) rfl (hb hby at_228) (by decide) (by decide) k)) ?_
          refine own_retNW X263 hx Bd.returns hlk rfl (Or.inl ⟨rfl, (by simp), _, rfl⟩) (hb hby at_232) (by decide) (by decide) ?_
          rw [e263]
          exact ⟨rfl, N263⟩
        · refine own_st (S' := T254.setTop (mkF m 91 #[.val (.int p0), .val (.int p1), .val (.int p2), .val (.int p3), .val (.int (p0 &&& (3 : Int32))), .val (.ref eF), .val (.ref b252), .val (.int (p1 &&& (3 : Int32))), .unset, .unset, .unset] [(.int (1 : Int32)), (.int (p1 &&& (3 : Int32)))])) (fun _ k => XS.ifYes X254.here hx rfl (pc0 := 79) (pc' := 88) rfl (hb hby at_79) rfl ((if0 _ _).trans (feq hc255).2) (by decide) (by decide) (XS.iload X254.here hx rfl (hb hby at_88) rfl (XS.iconst X254.here hx rfl (hb hby at_90) k))) ?_
          by_cases hc265 : (p1 &&& (3 : Int32)) = (1 : Int32)
          · refine own_st (S' := T254.setTop (mkF m 94 #[.val (.int p0), .val (.int p1), .val (.int p2), .val (.int p3), .val (.int (p0 &&& (3 : Int32))), .val (.ref eF), .val (.ref b252), .val (.int (p1 &&& (3 : Int32))), .unset, .unset, .unset] [])) (fun _ k => XS.icmpNo X254.here hx rfl (hb hby at_91) rfl (teq hc265).2 k) ?_
            obtain ⟨u266, T266, h266, k266, X266, e266, E266, sn266, sk266, hz266, ho266, st266⟩ := ldcS (s := s) (vm0 := s.vm) X254 hx hZ hown (hw _ own_w78) (fun d hd => hw d ((by decide +kernel : ∀ d ∈ Bundle.stringAtoms, d ∈ tables_1) d hd)) e254 ((State.WarmedH.refl s).since 0) (Nat.zero_le _) (g := (mkF m 94 #[.val (.int p0), .val (.int p1), .val (.int p2), .val (.int p3), .val (.int (p0 &&& (3 : Int32))), .val (.ref eF), .val (.ref b252), .val (.int (p1 &&& (3 : Int32))), .unset, .unset, .unset] [])) rfl (hb hby at_94) (n := 0) (by decide) (by decide) (by decide) (by decide)
            refine own_st (S' := T266.setTop (mkF m 96 #[.val (.int p0), .val (.int p1), .val (.int p2), .val (.int p3), .val (.int (p0 &&& (3 : Int32))), .val (.ref eF), .val (.ref b252), .val (.int (p1 &&& (3 : Int32))), .unset, .unset, .unset] [(.ref u266)])) st266 ?_
            refine own_st (S' := T266.setTop (mkF m 136 #[.val (.int p0), .val (.int p1), .val (.int p2), .val (.int p3), .val (.int (p0 &&& (3 : Int32))), .val (.ref eF), .val (.ref b252), .val (.int (p1 &&& (3 : Int32))), .val (.ref u266), .unset, .unset] [(.ref u266), (.ref eF)])) (fun _ k => XS.astore X266.here hx rfl (hb hby at_96) rfl rfl (l' := #[.val (.int p0), .val (.int p1), .val (.int p2), .val (.int p3), .val (.int (p0 &&& (3 : Int32))), .val (.ref eF), .val (.ref b252), .val (.int (p1 &&& (3 : Int32))), .val (.ref u266), .unset, .unset]) rfl (XS.goto X266.here hx rfl (pc0 := 98) (pc' := 132) rfl (hb hby at_98) (by decide) (by decide) (XS.aload X266.here hx rfl (hb hby at_132) rfl rfl (XS.aload X266.here hx rfl (hb hby at_134) rfl rfl k)))) ?_
            have XE267 : Ext h0 h266 := (own_xt (own_xw (own_xw E252 W253 (Nat.le_of_eq g252.symm)) W254 (Nat.le_of_eq g252.symm)) E266)
            have XO268 : Old Z n0 h266 := (XO.ext XE267)
            obtain ⟨_, _, ⟨T269, L269, k269, n269⟩, -, X269, ⟨Lc269, hQ269, l269, y269, z269⟩, st269⟩ := Jvm.LawKit.callS X266 hx (y := (⟨"com/example/task_callbacks/taskcallbacks/event/Listing", "of", "(Lcom/example/task_callbacks/taskcallbacks/event/EventStatus;Ljava/lang/String;)Lcom/example/task_callbacks/taskcallbacks/event/Listing;"⟩ : MethodName)) ho266 (mvT hz266 (hw _ own_w30)) (mvT hz266 (hw _ own_w31)) (mvT hz266 (hw _ own_w32)) (mvT hz266 (hw _ own_w33)) (by decide) (backOf (W := 0) (own_rm_of11 l Z a0 hw G1 S1 P1 lA lT lS lB eP eD eF tN tT tP tQ tS tB B [] eF u266 h266 n0 (Nat.le_trans Z0 (Nat.le_trans (Nat.le_trans (Nat.le_trans E252.1 (Nat.le_of_eq W253.size.symm)) (Nat.le_of_eq W254.size.symm)) E266.1)) XO268 ) hz266 (hw _ own_w33) (hw _ own_w32) (by decide) (by decide)) (g := (mkF m 136 #[.val (.int p0), .val (.int p1), .val (.int p2), .val (.int p3), .val (.int (p0 &&& (3 : Int32))), .val (.ref eF), .val (.ref b252), .val (.int (p1 &&& (3 : Int32))), .val (.ref u266), .unset, .unset] [(.ref u266), (.ref eF)])) rfl (by rw [hml]; rfl) (argsL := [(.ref eF), (.ref u266)]) (rest := []) (lenOf own_pd3 rfl) rfl (by show 2 * 0 + _ ≤ _; exact Nat.le_of_eq rfl) (hb hby at_136) (fun _ _ => ⟨rfl, e266, (by decide : 3 + 0 ≤ _), (by decide : 6 + 0 ≤ _)⟩)
            dsimp only [Pt.U, Pt.locs, Pt.cells, Pt.slots] at X269 l269 y269 z269 st269 hQ269
            subst l269 y269 z269
            obtain ⟨rfl, M269, e269⟩ := hQ269
            have N269 := Fr.app N254 M269
            refine own_st (S' := T269.setTop (mkF m 139 #[.val (.int p0), .val (.int p1), .val (.int p2), .val (.int p3), .val (.int (p0 &&& (3 : Int32))), .val (.ref eF), .val (.ref b252), .val (.int (p1 &&& (3 : Int32))), .val (.ref u266), .unset, .unset] [(.ref lB)])) st269 ?_
            refine own_st (S' := T269.setTop (mkF m 150 #[.val (.int p0), .val (.int p1), .val (.int p2), .val (.int p3), .val (.int (p0 &&& (3 : Int32))), .val (.ref eF), .val (.ref b252), .val (.int (p1 &&& (3 : Int32))), .val (.ref u266), .val (.ref lB), .unset] [(.ref eF)])) (fun _ k => XS.astore X269.here hx rfl (hb hby at_139) rfl rfl (l' := #[.val (.int p0), .val (.int p1), .val (.int p2), .val (.int p3), .val (.int (p0 &&& (3 : Int32))), .val (.ref eF), .val (.ref b252), .val (.int (p1 &&& (3 : Int32))), .val (.ref u266), .val (.ref lB), .unset]) rfl (XS.aload X269.here hx rfl (hb hby at_141) rfl rfl (XS.ifnonnullYes X269.here hx rfl (pc0 := 143) (pc' := 148) rfl (hb hby at_143) rfl (by decide) (by decide) (XS.aload X269.here hx rfl (hb hby at_148) rfl rfl k)))) ?_
            refine own_st (S' := T269.setTop (mkF m 174 #[.val (.int p0), .val (.int p1), .val (.int p2), .val (.int p3), .val (.int (p0 &&& (3 : Int32))), .val (.ref eF), .val (.ref b252), .val (.int (p1 &&& (3 : Int32))), .val (.ref u266), .val (.ref lB), .unset] [(.ref eF)])) (fun _ k => XS.ifnonnullYes X269.here hx rfl (pc0 := 150) (pc' := 172) rfl (hb hby at_150) rfl (by decide) (by decide) (XS.aload X269.here hx rfl (hb hby at_172) rfl rfl k)) ?_
            have S270 : Sta Z h266 "com/example/task_callbacks/taskcallbacks/event/EventStatus" "PENDING" "Lcom/example/task_callbacks/taskcallbacks/event/EventStatus;" (.ref eP) := (B4.ext XO268.2)
            obtain ⟨T271, X271, e271, st271⟩ := getS2 X269 hx hz266 ho266 (host := "") (Or.inl (hw _ own_w53)) Via.refl e269 S270 (g := (mkF m 174 #[.val (.int p0), .val (.int p1), .val (.int p2), .val (.int p3), .val (.int (p0 &&& (3 : Int32))), .val (.ref eF), .val (.ref b252), .val (.int (p1 &&& (3 : Int32))), .val (.ref u266), .val (.ref lB), .unset] [(.ref eF)])) rfl (hb hby at_174)
            refine own_st (S' := T271.setTop (mkF m 177 #[.val (.int p0), .val (.int p1), .val (.int p2), .val (.int p3), .val (.int (p0 &&& (3 : Int32))), .val (.ref eF), .val (.ref b252), .val (.int (p1 &&& (3 : Int32))), .val (.ref u266), .val (.ref lB), .unset] [(.ref eP), (.ref eF)])) st271 ?_
            refine own_st (S' := T271.setTop (mkF m 199 #[.val (.int p0), .val (.int p1), .val (.int p2), .val (.int p3), .val (.int (p0 &&& (3 : Int32))), .val (.ref eF), .val (.ref b252), .val (.int (p1 &&& (3 : Int32))), .val (.ref u266), .val (.ref lB), .unset] [])) (fun _ k => Jvm.RoadKit.acmp (g := (mkF m 177 #[.val (.int p0), .val (.int p1), .val (.int p2), .val (.int p3), .val (.int (p0 &&& (3 : Int32))), .val (.ref eF), .val (.ref b252), .val (.int (p1 &&& (3 : Int32))), .val (.ref u266), .val (.ref lB), .unset] [(.ref eP), (.ref eF)])) X271 hx rfl rfl rfl (pc0 := 177) (pc' := 199) (same := false) rfl (hb hby at_177) rfl (decide_eq_false fun q => B26 (Value.ref.inj q)) (by decide) (by decide) k) ?_
            refine own_st (S' := T271.setTop (mkF m 210 #[.val (.int p0), .val (.int p1), .val (.int p2), .val (.int p3), .val (.int (p0 &&& (3 : Int32))), .val (.ref eF), .val (.ref b252), .val (.int (p1 &&& (3 : Int32))), .val (.ref u266), .val (.ref lB), .unset] [])) (fun _ k => XS.aload X271.here hx rfl (hb hby at_199) rfl rfl (XS.ifnonnullYes X271.here hx rfl (pc0 := 201) (pc' := 210) rfl (hb hby at_201) rfl (by decide) (by decide) k)) ?_
            have S272 : Sta Z h266 "com/example/task_callbacks/taskcallbacks/store/Table" "EVENTS_BY_STATUS_AND_TYPE" "Lcom/example/task_callbacks/taskcallbacks/store/Table;" (.ref tB) := (B12.ext XO268.2)
            obtain ⟨T273, X273, e273, st273⟩ := getS2 X271 hx hz266 ho266 (host := "") (Or.inl (hw _ own_w54)) Via.refl e271 S272 (g := (mkF m 210 #[.val (.int p0), .val (.int p1), .val (.int p2), .val (.int p3), .val (.int (p0 &&& (3 : Int32))), .val (.ref eF), .val (.ref b252), .val (.int (p1 &&& (3 : Int32))), .val (.ref u266), .val (.ref lB), .unset] [])) rfl (hb hby at_210)
            refine own_st (S' := T273.setTop (mkF m 213 #[.val (.int p0), .val (.int p1), .val (.int p2), .val (.int p3), .val (.int (p0 &&& (3 : Int32))), .val (.ref eF), .val (.ref b252), .val (.int (p1 &&& (3 : Int32))), .val (.ref u266), .val (.ref lB), .unset] [(.ref tB)])) st273 ?_
            refine own_st (S' := T273.setTop (mkF m 219 #[.val (.int p0), .val (.int p1), .val (.int p2), .val (.int p3), .val (.int (p0 &&& (3 : Int32))), .val (.ref eF), .val (.ref b252), .val (.int (p1 &&& (3 : Int32))), .val (.ref u266), .val (.ref lB), .val (.ref tB)] [(.ref eF), (.ref lB)])) (fun _ k => XS.astore X273.here hx rfl (hb hby at_213) rfl rfl (l' := #[.val (.int p0), .val (.int p1), .val (.int p2), .val (.int p3), .val (.int (p0 &&& (3 : Int32))), .val (.ref eF), .val (.ref b252), .val (.int (p1 &&& (3 : Int32))), .val (.ref u266), .val (.ref lB), .val (.ref tB)]) rfl (XS.aload X273.here hx rfl (hb hby at_215) rfl rfl (XS.aload X273.here hx rfl (hb hby at_217) rfl rfl k))) ?_
            have A275 : Exa Z h266 lB "com/example/task_callbacks/taskcallbacks/event/Listing" := (B16.ext XO268.2)
            obtain ⟨cq274, kq274, q274a, q274b, q274c⟩ := isOf hz266 e273 A275
            obtain ⟨_, _, ⟨T274, L274, k274, n274⟩, -, X274, ⟨Lc274, hQ274, l274, y274, z274⟩, st274⟩ := X273.virtualBack hx (y := (⟨"com/example/task_callbacks/taskcallbacks/event/Listing", "table", "(Lcom/example/task_callbacks/taskcallbacks/event/EventStatus;)Lcom/example/task_callbacks/taskcallbacks/store/Table;"⟩ : MethodName)) (z := (⟨"com/example/task_callbacks/taskcallbacks/event/Listing", "table", "(Lcom/example/task_callbacks/taskcallbacks/event/EventStatus;)Lcom/example/task_callbacks/taskcallbacks/store/Table;"⟩ : MethodName)) ho266 (mvT hz266 (hw _ own_w39)) (mvT hz266 (hw _ own_w40)) (notFace_of_selects (args := #[]) (mvT hz266 (hw _ own_w42))) (mvT hz266 (hw _ own_w42)) (mvT hz266 (hw _ own_w41)) (by decide) (backOf (W := 0) (own_rm_ta_oth l Z a0 hw G1 S1 P1 lA lT lS lB eP eD eF tN tT tP tQ tS tB B [] lB tB eF h266 n0 (Nat.le_trans Z0 (Nat.le_trans (Nat.le_trans (Nat.le_trans E252.1 (Nat.le_of_eq W253.size.symm)) (Nat.le_of_eq W254.size.symm)) E266.1)) XO268 B23 B26) hz266 (hw _ own_w43) (hw _ own_w32) (by decide) (by decide)) q274a q274c (g := (mkF m 219 #[.val (.int p0), .val (.int p1), .val (.int p2), .val (.int p3), .val (.int (p0 &&& (3 : Int32))), .val (.ref eF), .val (.ref b252), .val (.int (p1 &&& (3 : Int32))), .val (.ref u266), .val (.ref lB), .val (.ref tB)] [(.ref eF), (.ref lB)])) rfl (by rw [hml]; rfl) (Steps.refl _) (argsL := [(.ref eF)]) (rest := []) (lenOf own_pd4 rfl) rfl (by show 2 * 0 + _ ≤ _; exact Nat.le_of_eq rfl) (hb hby at_219) (fun _ _ => ⟨rfl, e273, (by decide : 3 + 0 ≤ _), (by decide : 6 + 0 ≤ _)⟩)
            dsimp only [Pt.U, Pt.locs, Pt.cells, Pt.slots] at X274 l274 y274 z274 st274 hQ274
            subst l274 y274 z274
            obtain ⟨rfl, M274, e274⟩ := hQ274
            have N274 := Fr.app N269 M274
            refine own_tr (S' := T274.setTop (mkF m 222 #[.val (.int p0), .val (.int p1), .val (.int p2), .val (.int p3), .val (.int (p0 &&& (3 : Int32))), .val (.ref eF), .val (.ref b252), .val (.int (p1 &&& (3 : Int32))), .val (.ref u266), .val (.ref lB), .val (.ref tB)] [(.ref tB)])) st274 ?_
            refine own_st (S' := T274.setTop (mkF m 224 #[.val (.int p0), .val (.int p1), .val (.int p2), .val (.int p3), .val (.int (p0 &&& (3 : Int32))), .val (.ref eF), .val (.ref b252), .val (.int (p1 &&& (3 : Int32))), .val (.ref u266), .val (.ref lB), .val (.ref tB)] [(.ref tB), (.ref tB)])) (fun _ k => XS.aload X274.here hx rfl (hb hby at_222) rfl rfl k) ?_
            refine own_st (S' := T274.setTop (mkF m 227 #[.val (.int p0), .val (.int p1), .val (.int p2), .val (.int p3), .val (.int (p0 &&& (3 : Int32))), .val (.ref eF), .val (.ref b252), .val (.int (p1 &&& (3 : Int32))), .val (.ref u266), .val (.ref lB), .val (.ref tB)] [])) (fun _ k => Jvm.RoadKit.acmp (g := (mkF m 224 #[.val (.int p0), .val (.int p1), .val (.int p2), .val (.int p3), .val (.int (p0 &&& (3 : Int32))), .val (.ref eF), .val (.ref b252), .val (.int (p1 &&& (3 : Int32))), .val (.ref u266), .val (.ref lB), .val (.ref tB)] [(.ref tB), (.ref tB)])) X274 hx rfl rfl rfl (pc0 := 224) (pc' := 227) (same := true) rfl (hb hby at_224) rfl (decide_eq_true rfl) (by decide) (by decide) k) ?_
            refine own_st (S' := T274.setTop (mkF m 232 #[.val (.int p0), .val (.int p1), .val (.int p2), .val (.int p3), .val (.int (p0 &&& (3 : Int32))), .val (.ref eF), .val (.ref b252), .val (.int (p1 &&& (3 : Int32))), .val (.ref u266), .val (.ref lB), .val (.ref tB)] [(.int (1 : Int32))])) (fun _ k => XS.iconst X274.here hx rfl (hb hby at_227) (XS.goto X274.here hx rfl (pc0 := 228) (pc' := 232) rfl (hb hby at_228) (by decide) (by decide) k)) ?_
            refine own_retW X274 hx sn266 (by rw [e274]; exact Nat.le_trans sk266 (Nat.le_refl _)) Bd.returns hlk rfl (Or.inl ⟨rfl, (by simp), _, rfl⟩) (hb hby at_232) (by decide) (by decide) ?_
            rw [e274]
            exact ⟨rfl, N274⟩
          · refine own_st (S' := T254.setTop (mkF m 104 #[.val (.int p0), .val (.int p1), .val (.int p2), .val (.int p3), .val (.int (p0 &&& (3 : Int32))), .val (.ref eF), .val (.ref b252), .val (.int (p1 &&& (3 : Int32))), .unset, .unset, .unset] [(.int (2 : Int32)), (.int (p1 &&& (3 : Int32)))])) (fun _ k => XS.icmpYes X254.here hx rfl (pc0 := 91) (pc' := 101) rfl (hb hby at_91) rfl (feq hc265).2 (by decide) (by decide) (XS.iload X254.here hx rfl (hb hby at_101) rfl (XS.iconst X254.here hx rfl (hb hby at_103) k))) ?_
            by_cases hc276 : (p1 &&& (3 : Int32)) = (2 : Int32)
            · refine own_st (S' := T254.setTop (mkF m 112 #[.val (.int p0), .val (.int p1), .val (.int p2), .val (.int p3), .val (.int (p0 &&& (3 : Int32))), .val (.ref eF), .val (.ref b252), .val (.int (p1 &&& (3 : Int32))), .unset, .unset, .unset] [(.int (p2 &&& (255 : Int32)))])) (fun _ k => XS.icmpNo X254.here hx rfl (hb hby at_104) rfl (teq hc276).2 (XS.iloadN X254.here hx rfl (hb hby at_107) rfl (XS.sipush X254.here hx rfl (hb hby at_108) (XS.iand X254.here hx rfl (hb hby at_111) rfl k)))) ?_
              refine own_st (S' := T254.setTop (mkF m 113 #[.val (.int p0), .val (.int p1), .val (.int p2), .val (.int p3), .val (.int (p0 &&& (3 : Int32))), .val (.ref eF), .val (.ref b252), .val (.int (p1 &&& (3 : Int32))), .unset, .unset, .unset] [(.int ((p2 &&& (255 : Int32)).toUInt32.toUInt16.toUInt32.toInt32))])) (fun _ k => XS.i2c X254.here hx rfl (hb hby at_112) rfl k) ?_
              have XE277 : Ext h0 h254 := (own_xw (own_xw E252 W253 (Nat.le_of_eq g252.symm)) W254 (Nat.le_of_eq g252.symm))
              have XO278 : Old Z n0 h254 := (XO.ext XE277)
              obtain ⟨_, _, ⟨T279, L279, k279, n279⟩, -, X279, ⟨Lc279, hQ279, l279, y279, z279⟩, st279⟩ := Jvm.LawKit.callS X254 hx (y := (⟨"java/lang/String", "valueOf", "(C)Ljava/lang/String;"⟩ : MethodName)) hown (mvT hZ (hw _ own_w58)) (mvT hZ (hw _ own_w59)) (mvT hZ (hw _ own_w3)) (mvT hZ (hw _ own_w60)) (by decide) (backOf (W := 0) (own_rm_vof l Z a0 hw G1 S1 P1 lA lT lS lB eP eD eF tN tT tP tQ tS tB B [] ((p2 &&& (255 : Int32)).toUInt32.toUInt16.toUInt32.toInt32) h254 n0 (Nat.le_trans Z0 (Nat.le_trans (Nat.le_trans E252.1 (Nat.le_of_eq W253.size.symm)) (Nat.le_of_eq W254.size.symm))) XO278 (own_c0 p2).1 (own_c0 p2).2) hZ (hw _ own_w60) (hw _ own_w3) (by decide) (by decide)) (g := (mkF m 113 #[.val (.int p0), .val (.int p1), .val (.int p2), .val (.int p3), .val (.int (p0 &&& (3 : Int32))), .val (.ref eF), .val (.ref b252), .val (.int (p1 &&& (3 : Int32))), .unset, .unset, .unset] [(.int ((p2 &&& (255 : Int32)).toUInt32.toUInt16.toUInt32.toInt32))])) rfl (by rw [hml]; rfl) (argsL := [(.int ((p2 &&& (255 : Int32)).toUInt32.toUInt16.toUInt32.toInt32))]) (rest := []) (lenOf own_pd5 rfl) rfl (by show 2 * 0 + _ ≤ _; exact Nat.le_of_eq rfl) (hb hby at_113) (fun _ _ => ⟨rfl, e254, (by decide : 1 + 2 ≤ _), (by decide : 2 + 5 ≤ _)⟩)
              dsimp only [Pt.U, Pt.locs, Pt.cells, Pt.slots] at X279 l279 y279 z279 st279 hQ279
              subst l279 y279 z279
              obtain ⟨r279, rfl, M279, E279, g279, Y279⟩ := hQ279
              have N279 := Fr.app N254 M279
              obtain ⟨h279, e279⟩ : ∃ z, T279.heap = z := ⟨_, rfl⟩
              rw [e279] at E279 Y279
              refine own_st (S' := T279.setTop (mkF m 116 #[.val (.int p0), .val (.int p1), .val (.int p2), .val (.int p3), .val (.int (p0 &&& (3 : Int32))), .val (.ref eF), .val (.ref b252), .val (.int (p1 &&& (3 : Int32))), .unset, .unset, .unset] [(.ref r279)])) st279 ?_
              refine own_st (S' := T279.setTop (mkF m 136 #[.val (.int p0), .val (.int p1), .val (.int p2), .val (.int p3), .val (.int (p0 &&& (3 : Int32))), .val (.ref eF), .val (.ref b252), .val (.int (p1 &&& (3 : Int32))), .val (.ref r279), .unset, .unset] [(.ref r279), (.ref eF)])) (fun _ k => XS.astore X279.here hx rfl (hb hby at_116) rfl rfl (l' := #[.val (.int p0), .val (.int p1), .val (.int p2), .val (.int p3), .val (.int (p0 &&& (3 : Int32))), .val (.ref eF), .val (.ref b252), .val (.int (p1 &&& (3 : Int32))), .val (.ref r279), .unset, .unset]) rfl (XS.goto X279.here hx rfl (pc0 := 118) (pc' := 132) rfl (hb hby at_118) (by decide) (by decide) (XS.aload X279.here hx rfl (hb hby at_132) rfl rfl (XS.aload X279.here hx rfl (hb hby at_134) rfl rfl k)))) ?_
              have XO280 : Old Z n0 h279 := (XO278.ext E279)
              obtain ⟨_, _, ⟨T281, L281, k281, n281⟩, -, X281, ⟨Lc281, hQ281, l281, y281, z281⟩, st281⟩ := Jvm.LawKit.callS X279 hx (y := (⟨"com/example/task_callbacks/taskcallbacks/event/Listing", "of", "(Lcom/example/task_callbacks/taskcallbacks/event/EventStatus;Ljava/lang/String;)Lcom/example/task_callbacks/taskcallbacks/event/Listing;"⟩ : MethodName)) hown (mvT hZ (hw _ own_w30)) (mvT hZ (hw _ own_w31)) (mvT hZ (hw _ own_w32)) (mvT hZ (hw _ own_w33)) (by decide) (backOf (W := 0) (own_rm_of11 l Z a0 hw G1 S1 P1 lA lT lS lB eP eD eF tN tT tP tQ tS tB B [] eF r279 h279 n0 (Nat.le_trans Z0 (Nat.le_trans (Nat.le_trans (Nat.le_trans E252.1 (Nat.le_of_eq W253.size.symm)) (Nat.le_of_eq W254.size.symm)) E279.1)) XO280 ) hZ (hw _ own_w33) (hw _ own_w32) (by decide) (by decide)) (g := (mkF m 136 #[.val (.int p0), .val (.int p1), .val (.int p2), .val (.int p3), .val (.int (p0 &&& (3 : Int32))), .val (.ref eF), .val (.ref b252), .val (.int (p1 &&& (3 : Int32))), .val (.ref r279), .unset, .unset] [(.ref r279), (.ref eF)])) rfl (by rw [hml]; rfl) (argsL := [(.ref eF), (.ref r279)]) (rest := []) (lenOf own_pd3 rfl) rfl (by show 2 * 0 + _ ≤ _; exact Nat.le_of_eq rfl) (hb hby at_136) (fun _ _ => ⟨rfl, e279, (by decide : 3 + 0 ≤ _), (by decide : 7 + 0 ≤ _)⟩)
              dsimp only [Pt.U, Pt.locs, Pt.cells, Pt.slots] at X281 l281 y281 z281 st281 hQ281
              subst l281 y281 z281
              obtain ⟨rfl, M281, e281⟩ := hQ281
              have N281 := Fr.app N279 M281
              refine own_st (S' := T281.setTop (mkF m 139 #[.val (.int p0), .val (.int p1), .val (.int p2), .val (.int p3), .val (.int (p0 &&& (3 : Int32))), .val (.ref eF), .val (.ref b252), .val (.int (p1 &&& (3 : Int32))), .val (.ref r279), .unset, .unset] [(.ref lB)])) st281 ?_
              refine own_st (S' := T281.setTop (mkF m 150 #[.val (.int p0), .val (.int p1), .val (.int p2), .val (.int p3), .val (.int (p0 &&& (3 : Int32))), .val (.ref eF), .val (.ref b252), .val (.int (p1 &&& (3 : Int32))), .val (.ref r279), .val (.ref lB), .unset] [(.ref eF)])) (fun _ k => XS.astore X281.here hx rfl (hb hby at_139) rfl rfl (l' := #[.val (.int p0), .val (.int p1), .val (.int p2), .val (.int p3), .val (.int (p0 &&& (3 : Int32))), .val (.ref eF), .val (.ref b252), .val (.int (p1 &&& (3 : Int32))), .val (.ref r279), .val (.ref lB), .unset]) rfl (XS.aload X281.here hx rfl (hb hby at_141) rfl rfl (XS.ifnonnullYes X281.here hx rfl (pc0 := 143) (pc' := 148) rfl (hb hby at_143) rfl (by decide) (by decide) (XS.aload X281.here hx rfl (hb hby at_148) rfl rfl k)))) ?_
              refine own_st (S' := T281.setTop (mkF m 174 #[.val (.int p0), .val (.int p1), .val (.int p2), .val (.int p3), .val (.int (p0 &&& (3 : Int32))), .val (.ref eF), .val (.ref b252), .val (.int (p1 &&& (3 : Int32))), .val (.ref r279), .val (.ref lB), .unset] [(.ref eF)])) (fun _ k => XS.ifnonnullYes X281.here hx rfl (pc0 := 150) (pc' := 172) rfl (hb hby at_150) rfl (by decide) (by decide) (XS.aload X281.here hx rfl (hb hby at_172) rfl rfl k)) ?_
              have S282 : Sta Z h279 "com/example/task_callbacks/taskcallbacks/event/EventStatus" "PENDING" "Lcom/example/task_callbacks/taskcallbacks/event/EventStatus;" (.ref eP) := (B4.ext XO280.2)
              obtain ⟨T283, X283, e283, st283⟩ := getS2 X281 hx hZ hown (host := "") (Or.inl (hw _ own_w53)) Via.refl e281 S282 (g := (mkF m 174 #[.val (.int p0), .val (.int p1), .val (.int p2), .val (.int p3), .val (.int (p0 &&& (3 : Int32))), .val (.ref eF), .val (.ref b252), .val (.int (p1 &&& (3 : Int32))), .val (.ref r279), .val (.ref lB), .unset] [(.ref eF)])) rfl (hb hby at_174)
              refine own_st (S' := T283.setTop (mkF m 177 #[.val (.int p0), .val (.int p1), .val (.int p2), .val (.int p3), .val (.int (p0 &&& (3 : Int32))), .val (.ref eF), .val (.ref b252), .val (.int (p1 &&& (3 : Int32))), .val (.ref r279), .val (.ref lB), .unset] [(.ref eP), (.ref eF)])) st283 ?_
              refine own_st (S' := T283.setTop (mkF m 199 #[.val (.int p0), .val (.int p1), .val (.int p2), .val (.int p3), .val (.int (p0 &&& (3 : Int32))), .val (.ref eF), .val (.ref b252), .val (.int (p1 &&& (3 : Int32))), .val (.ref r279), .val (.ref lB), .unset] [])) (fun _ k => Jvm.RoadKit.acmp (g := (mkF m 177 #[.val (.int p0), .val (.int p1), .val (.int p2), .val (.int p3), .val (.int (p0 &&& (3 : Int32))), .val (.ref eF), .val (.ref b252), .val (.int (p1 &&& (3 : Int32))), .val (.ref r279), .val (.ref lB), .unset] [(.ref eP), (.ref eF)])) X283 hx rfl rfl rfl (pc0 := 177) (pc' := 199) (same := false) rfl (hb hby at_177) rfl (decide_eq_false fun q => B26 (Value.ref.inj q)) (by decide) (by decide) k) ?_
              refine own_st (S' := T283.setTop (mkF m 210 #[.val (.int p0), .val (.int p1), .val (.int p2), .val (.int p3), .val (.int (p0 &&& (3 : Int32))), .val (.ref eF), .val (.ref b252), .val (.int (p1 &&& (3 : Int32))), .val (.ref r279), .val (.ref lB), .unset] [])) (fun _ k => XS.aload X283.here hx rfl (hb hby at_199) rfl rfl (XS.ifnonnullYes X283.here hx rfl (pc0 := 201) (pc' := 210) rfl (hb hby at_201) rfl (by decide) (by decide) k)) ?_
              have S284 : Sta Z h279 "com/example/task_callbacks/taskcallbacks/store/Table" "EVENTS_BY_STATUS_AND_TYPE" "Lcom/example/task_callbacks/taskcallbacks/store/Table;" (.ref tB) := (B12.ext XO280.2)
              obtain ⟨T285, X285, e285, st285⟩ := getS2 X283 hx hZ hown (host := "") (Or.inl (hw _ own_w54)) Via.refl e283 S284 (g := (mkF m 210 #[.val (.int p0), .val (.int p1), .val (.int p2), .val (.int p3), .val (.int (p0 &&& (3 : Int32))), .val (.ref eF), .val (.ref b252), .val (.int (p1 &&& (3 : Int32))), .val (.ref r279), .val (.ref lB), .unset] [])) rfl (hb hby at_210)
              refine own_st (S' := T285.setTop (mkF m 213 #[.val (.int p0), .val (.int p1), .val (.int p2), .val (.int p3), .val (.int (p0 &&& (3 : Int32))), .val (.ref eF), .val (.ref b252), .val (.int (p1 &&& (3 : Int32))), .val (.ref r279), .val (.ref lB), .unset] [(.ref tB)])) st285 ?_
              refine own_st (S' := T285.setTop (mkF m 219 #[.val (.int p0), .val (.int p1), .val (.int p2), .val (.int p3), .val (.int (p0 &&& (3 : Int32))), .val (.ref eF), .val (.ref b252), .val (.int (p1 &&& (3 : Int32))), .val (.ref r279), .val (.ref lB), .val (.ref tB)] [(.ref eF), (.ref lB)])) (fun _ k => XS.astore X285.here hx rfl (hb hby at_213) rfl rfl (l' := #[.val (.int p0), .val (.int p1), .val (.int p2), .val (.int p3), .val (.int (p0 &&& (3 : Int32))), .val (.ref eF), .val (.ref b252), .val (.int (p1 &&& (3 : Int32))), .val (.ref r279), .val (.ref lB), .val (.ref tB)]) rfl (XS.aload X285.here hx rfl (hb hby at_215) rfl rfl (XS.aload X285.here hx rfl (hb hby at_217) rfl rfl k))) ?_
              have A287 : Exa Z h279 lB "com/example/task_callbacks/taskcallbacks/event/Listing" := (B16.ext XO280.2)
              obtain ⟨cq286, kq286, q286a, q286b, q286c⟩ := isOf hZ e285 A287
              obtain ⟨_, _, ⟨T286, L286, k286, n286⟩, -, X286, ⟨Lc286, hQ286, l286, y286, z286⟩, st286⟩ := X285.virtualBack hx (y := (⟨"com/example/task_callbacks/taskcallbacks/event/Listing", "table", "(Lcom/example/task_callbacks/taskcallbacks/event/EventStatus;)Lcom/example/task_callbacks/taskcallbacks/store/Table;"⟩ : MethodName)) (z := (⟨"com/example/task_callbacks/taskcallbacks/event/Listing", "table", "(Lcom/example/task_callbacks/taskcallbacks/event/EventStatus;)Lcom/example/task_callbacks/taskcallbacks/store/Table;"⟩ : MethodName)) hown (mvT hZ (hw _ own_w39)) (mvT hZ (hw _ own_w40)) (notFace_of_selects (args := #[]) (mvT hZ (hw _ own_w42))) (mvT hZ (hw _ own_w42)) (mvT hZ (hw _ own_w41)) (by decide) (backOf (W := 0) (own_rm_ta_oth l Z a0 hw G1 S1 P1 lA lT lS lB eP eD eF tN tT tP tQ tS tB B [] lB tB eF h279 n0 (Nat.le_trans Z0 (Nat.le_trans (Nat.le_trans (Nat.le_trans E252.1 (Nat.le_of_eq W253.size.symm)) (Nat.le_of_eq W254.size.symm)) E279.1)) XO280 B23 B26) hZ (hw _ own_w43) (hw _ own_w32) (by decide) (by decide)) q286a q286c (g := (mkF m 219 #[.val (.int p0), .val (.int p1), .val (.int p2), .val (.int p3), .val (.int (p0 &&& (3 : Int32))), .val (.ref eF), .val (.ref b252), .val (.int (p1 &&& (3 : Int32))), .val (.ref r279), .val (.ref lB), .val (.ref tB)] [(.ref eF), (.ref lB)])) rfl (by rw [hml]; rfl) (Steps.refl _) (argsL := [(.ref eF)]) (rest := []) (lenOf own_pd4 rfl) rfl (by show 2 * 0 + _ ≤ _; exact Nat.le_of_eq rfl) (hb hby at_219) (fun _ _ => ⟨rfl, e285, (by decide : 3 + 0 ≤ _), (by decide : 7 + 0 ≤ _)⟩)
              dsimp only [Pt.U, Pt.locs, Pt.cells, Pt.slots] at X286 l286 y286 z286 st286 hQ286
              subst l286 y286 z286
              obtain ⟨rfl, M286, e286⟩ := hQ286
              have N286 := Fr.app N281 M286
              refine own_tr (S' := T286.setTop (mkF m 222 #[.val (.int p0), .val (.int p1), .val (.int p2), .val (.int p3), .val (.int (p0 &&& (3 : Int32))), .val (.ref eF), .val (.ref b252), .val (.int (p1 &&& (3 : Int32))), .val (.ref r279), .val (.ref lB), .val (.ref tB)] [(.ref tB)])) st286 ?_
              refine own_st (S' := T286.setTop (mkF m 224 #[.val (.int p0), .val (.int p1), .val (.int p2), .val (.int p3), .val (.int (p0 &&& (3 : Int32))), .val (.ref eF), .val (.ref b252), .val (.int (p1 &&& (3 : Int32))), .val (.ref r279), .val (.ref lB), .val (.ref tB)] [(.ref tB), (.ref tB)])) (fun _ k => XS.aload X286.here hx rfl (hb hby at_222) rfl rfl k) ?_
              refine own_st (S' := T286.setTop (mkF m 227 #[.val (.int p0), .val (.int p1), .val (.int p2), .val (.int p3), .val (.int (p0 &&& (3 : Int32))), .val (.ref eF), .val (.ref b252), .val (.int (p1 &&& (3 : Int32))), .val (.ref r279), .val (.ref lB), .val (.ref tB)] [])) (fun _ k => Jvm.RoadKit.acmp (g := (mkF m 224 #[.val (.int p0), .val (.int p1), .val (.int p2), .val (.int p3), .val (.int (p0 &&& (3 : Int32))), .val (.ref eF), .val (.ref b252), .val (.int (p1 &&& (3 : Int32))), .val (.ref r279), .val (.ref lB), .val (.ref tB)] [(.ref tB), (.ref tB)])) X286 hx rfl rfl rfl (pc0 := 224) (pc' := 227) (same := true) rfl (hb hby at_224) rfl (decide_eq_true rfl) (by decide) (by decide) k) ?_
              refine own_st (S' := T286.setTop (mkF m 232 #[.val (.int p0), .val (.int p1), .val (.int p2), .val (.int p3), .val (.int (p0 &&& (3 : Int32))), .val (.ref eF), .val (.ref b252), .val (.int (p1 &&& (3 : Int32))), .val (.ref r279), .val (.ref lB), .val (.ref tB)] [(.int (1 : Int32))])) (fun _ k => XS.iconst X286.here hx rfl (hb hby at_227) (XS.goto X286.here hx rfl (pc0 := 228) (pc' := 232) rfl (hb hby at_228) (by decide) (by decide) k)) ?_
              refine own_retNW X286 hx Bd.returns hlk rfl (Or.inl ⟨rfl, (by simp), _, rfl⟩) (hb hby at_232) (by decide) (by decide) ?_
              rw [e286]
              exact ⟨rfl, N286⟩
            · refine own_st (S' := T254.setTop (mkF m 121 #[.val (.int p0), .val (.int p1), .val (.int p2), .val (.int p3), .val (.int (p0 &&& (3 : Int32))), .val (.ref eF), .val (.ref b252), .val (.int (p1 &&& (3 : Int32))), .unset, .unset, .unset] [])) (fun _ k => XS.icmpYes X254.here hx rfl (pc0 := 104) (pc' := 121) rfl (hb hby at_104) rfl (feq hc276).2 (by decide) (by decide) k) ?_
              obtain ⟨T288, h288, X288, e288, E288, A288, D288, -, st288⟩ := newO X254 hx hZ hown (hw _ own_w1) (hw _ own_w2) (hw _ own_w3) e254 (g := (mkF m 121 #[.val (.int p0), .val (.int p1), .val (.int p2), .val (.int p3), .val (.int (p0 &&& (3 : Int32))), .val (.ref eF), .val (.ref b252), .val (.int (p1 &&& (3 : Int32))), .unset, .unset, .unset] [])) rfl (hb hby at_121) (by decide) (by decide)
              obtain ⟨b288, g288⟩ : ∃ z, z = h254.size := ⟨_, rfl⟩
              rw [← g288] at A288 D288 st288
              refine own_st (S' := T288.setTop (mkF m 124 #[.val (.int p0), .val (.int p1), .val (.int p2), .val (.int p3), .val (.int (p0 &&& (3 : Int32))), .val (.ref eF), .val (.ref b252), .val (.int (p1 &&& (3 : Int32))), .unset, .unset, .unset] [(.ref b288)])) st288 ?_
              refine own_st (S' := T288.setTop (mkF m 127 #[.val (.int p0), .val (.int p1), .val (.int p2), .val (.int p3), .val (.int (p0 &&& (3 : Int32))), .val (.ref eF), .val (.ref b252), .val (.int (p1 &&& (3 : Int32))), .unset, .unset, .unset] [(.ref b252), (.ref b288), (.ref b288)])) (fun _ k => XS.dup X288.here hx rfl (hb hby at_124) rfl rfl (XS.aload X288.here hx rfl (hb hby at_125) rfl rfl k)) ?_
              have V289 : Arv Z h288 b252 k252 .char (2 : Int32) [(.int (nar .char ((p2 &&& (255 : Int32)).toUInt32.toUInt16.toUInt32.toInt32))), (.int (nar .char ((p3 &&& (255 : Int32)).toUInt32.toUInt16.toUInt32.toInt32)))] (.int (0 : Int32)) := (V254.ext E288)
              have XE290 : Ext h0 h288 := (own_xt (own_xw (own_xw E252 W253 (Nat.le_of_eq g252.symm)) W254 (Nat.le_of_eq g252.symm)) E288)
              have XO291 : Old Z n0 h288 := (XO.ext XE290)
              have S292 : Sta Z h288 "java/lang/String" "COMPACT_STRINGS" "Z" (.int G1) := (S1.ext XO291.2)
              obtain ⟨_, _, ⟨T293, L293, k293, n293⟩, -, X293, ⟨Lc293, hQ293, l293, y293, z293⟩, st293⟩ := X288.specialBack hx (y := (⟨"java/lang/String", "<init>", "([C)V"⟩ : MethodName)) rfl hown (mvT hZ (hw _ own_w4)) (mvT hZ (hw _ own_w5)) (mvT hZ (hw _ own_w6)) (by decide) (own_newB (W := 1) hZ hw (cs := [nar .char ((p2 &&& (255 : Int32)).toUInt32.toUInt16.toUInt32.toInt32), nar .char ((p3 &&& (255 : Int32)).toUInt32.toUInt16.toUInt32.toInt32)]) (n := 2) (n0 := n0) (Nat.le_trans Z0 (Nat.le_trans (Nat.le_trans (Nat.le_trans E252.1 (Nat.le_of_eq W253.size.symm)) (Nat.le_of_eq W254.size.symm)) (Nat.le_of_eq g288.symm))) (Nat.le_trans Z0 (Nat.le_trans (Nat.le_trans (Nat.le_trans E252.1 (Nat.le_of_eq W253.size.symm)) (Nat.le_of_eq W254.size.symm)) E288.1)) A288 (D288 (Or.inr (hw _ own_w29)) (ty := (.array .byte)) (by decide)) (D288 (Or.inr (hw _ own_w27)) (ty := .byte) (by decide)) V289 S292 P1 rfl rfl (by decide) (by decide) (own_hp2 p2 p3) (by decide) (by decide)) (g := (mkF m 127 #[.val (.int p0), .val (.int p1), .val (.int p2), .val (.int p3), .val (.int (p0 &&& (3 : Int32))), .val (.ref eF), .val (.ref b252), .val (.int (p1 &&& (3 : Int32))), .unset, .unset, .unset] [(.ref b252), (.ref b288), (.ref b288)])) rfl (by rw [hml]; rfl) (Steps.refl _) (a := b288) (argsL := [(.ref b252)]) (rest := [(.ref b288)]) (lenOf own_pd6 rfl) rfl (by show 2 * 0 + _ ≤ _; exact Nat.le_of_eq rfl) (hb hby at_127) (fun _ _ => ⟨rfl, e288, (by decide : 2 + 1 ≤ _), (by decide : 6 + 2 ≤ _)⟩)
              dsimp only [Pt.U, Pt.locs, Pt.cells, Pt.slots] at X293 l293 y293 z293 st293 hQ293
              subst l293 y293 z293
              obtain ⟨rfl, M293, K293, Y293⟩ := hQ293
              have N293 := Fr.app N254 M293
              obtain ⟨h293, e293⟩ : ∃ z, T293.heap = z := ⟨_, rfl⟩
              rw [e293] at K293 Y293
              refine own_tr (S' := T293.setTop (mkF m 130 #[.val (.int p0), .val (.int p1), .val (.int p2), .val (.int p3), .val (.int (p0 &&& (3 : Int32))), .val (.ref eF), .val (.ref b252), .val (.int (p1 &&& (3 : Int32))), .unset, .unset, .unset] [(.ref b288)])) st293 ?_
              refine own_st (S' := T293.setTop (mkF m 136 #[.val (.int p0), .val (.int p1), .val (.int p2), .val (.int p3), .val (.int (p0 &&& (3 : Int32))), .val (.ref eF), .val (.ref b252), .val (.int (p1 &&& (3 : Int32))), .val (.ref b288), .unset, .unset] [(.ref b288), (.ref eF)])) (fun _ k => XS.astore X293.here hx rfl (hb hby at_130) rfl rfl (l' := #[.val (.int p0), .val (.int p1), .val (.int p2), .val (.int p3), .val (.int (p0 &&& (3 : Int32))), .val (.ref eF), .val (.ref b252), .val (.int (p1 &&& (3 : Int32))), .val (.ref b288), .unset, .unset]) rfl (XS.aload X293.here hx rfl (hb hby at_132) rfl rfl (XS.aload X293.here hx rfl (hb hby at_134) rfl rfl k))) ?_
              have XO294 : Old Z n0 h293 := (XO291.keep K293 (allS (Nat.le_trans Z0 (Nat.le_trans (Nat.le_trans (Nat.le_trans E252.1 (Nat.le_of_eq W253.size.symm)) (Nat.le_of_eq W254.size.symm)) (Nat.le_of_eq g288.symm))) all0))
              obtain ⟨_, _, ⟨T295, L295, k295, n295⟩, -, X295, ⟨Lc295, hQ295, l295, y295, z295⟩, st295⟩ := Jvm.LawKit.callS X293 hx (y := (⟨"com/example/task_callbacks/taskcallbacks/event/Listing", "of", "(Lcom/example/task_callbacks/taskcallbacks/event/EventStatus;Ljava/lang/String;)Lcom/example/task_callbacks/taskcallbacks/event/Listing;"⟩ : MethodName)) hown (mvT hZ (hw _ own_w30)) (mvT hZ (hw _ own_w31)) (mvT hZ (hw _ own_w32)) (mvT hZ (hw _ own_w33)) (by decide) (backOf (W := 0) (own_rm_of11 l Z a0 hw G1 S1 P1 lA lT lS lB eP eD eF tN tT tP tQ tS tB B [] eF b288 h293 n0 (Nat.le_trans Z0 (Nat.le_trans (Nat.le_trans (Nat.le_trans (Nat.le_trans E252.1 (Nat.le_of_eq W253.size.symm)) (Nat.le_of_eq W254.size.symm)) E288.1) K293.1)) XO294 ) hZ (hw _ own_w33) (hw _ own_w32) (by decide) (by decide)) (g := (mkF m 136 #[.val (.int p0), .val (.int p1), .val (.int p2), .val (.int p3), .val (.int (p0 &&& (3 : Int32))), .val (.ref eF), .val (.ref b252), .val (.int (p1 &&& (3 : Int32))), .val (.ref b288), .unset, .unset] [(.ref b288), (.ref eF)])) rfl (by rw [hml]; rfl) (argsL := [(.ref eF), (.ref b288)]) (rest := []) (lenOf own_pd3 rfl) rfl (by show 2 * 0 + _ ≤ _; exact Nat.le_of_eq rfl) (hb hby at_136) (fun _ _ => ⟨rfl, e293, (by decide : 3 + 0 ≤ _), (by decide : 8 + 0 ≤ _)⟩)
              dsimp only [Pt.U, Pt.locs, Pt.cells, Pt.slots] at X295 l295 y295 z295 st295 hQ295
              subst l295 y295 z295
              obtain ⟨rfl, M295, e295⟩ := hQ295
              have N295 := Fr.app N293 M295
              refine own_st (S' := T295.setTop (mkF m 139 #[.val (.int p0), .val (.int p1), .val (.int p2), .val (.int p3), .val (.int (p0 &&& (3 : Int32))), .val (.ref eF), .val (.ref b252), .val (.int (p1 &&& (3 : Int32))), .val (.ref b288), .unset, .unset] [(.ref lB)])) st295 ?_
              refine own_st (S' := T295.setTop (mkF m 150 #[.val (.int p0), .val (.int p1), .val (.int p2), .val (.int p3), .val (.int (p0 &&& (3 : Int32))), .val (.ref eF), .val (.ref b252), .val (.int (p1 &&& (3 : Int32))), .val (.ref b288), .val (.ref lB), .unset] [(.ref eF)])) (fun _ k => XS.astore X295.here hx rfl (hb hby at_139) rfl rfl (l' := #[.val (.int p0), .val (.int p1), .val (.int p2), .val (.int p3), .val (.int (p0 &&& (3 : Int32))), .val (.ref eF), .val (.ref b252), .val (.int (p1 &&& (3 : Int32))), .val (.ref b288), .val (.ref lB), .unset]) rfl (XS.aload X295.here hx rfl (hb hby at_141) rfl rfl (XS.ifnonnullYes X295.here hx rfl (pc0 := 143) (pc' := 148) rfl (hb hby at_143) rfl (by decide) (by decide) (XS.aload X295.here hx rfl (hb hby at_148) rfl rfl k)))) ?_
              refine own_st (S' := T295.setTop (mkF m 174 #[.val (.int p0), .val (.int p1), .val (.int p2), .val (.int p3), .val (.int (p0 &&& (3 : Int32))), .val (.ref eF), .val (.ref b252), .val (.int (p1 &&& (3 : Int32))), .val (.ref b288), .val (.ref lB), .unset] [(.ref eF)])) (fun _ k => XS.ifnonnullYes X295.here hx rfl (pc0 := 150) (pc' := 172) rfl (hb hby at_150) rfl (by decide) (by decide) (XS.aload X295.here hx rfl (hb hby at_172) rfl rfl k)) ?_
              have S296 : Sta Z h293 "com/example/task_callbacks/taskcallbacks/event/EventStatus" "PENDING" "Lcom/example/task_callbacks/taskcallbacks/event/EventStatus;" (.ref eP) := (B4.ext XO294.2)
              obtain ⟨T297, X297, e297, st297⟩ := getS2 X295 hx hZ hown (host := "") (Or.inl (hw _ own_w53)) Via.refl e295 S296 (g := (mkF m 174 #[.val (.int p0), .val (.int p1), .val (.int p2), .val (.int p3), .val (.int (p0 &&& (3 : Int32))), .val (.ref eF), .val (.ref b252), .val (.int (p1 &&& (3 : Int32))), .val (.ref b288), .val (.ref lB), .unset] [(.ref eF)])) rfl (hb hby at_174)
              refine own_st (S' := T297.setTop (mkF m 177 #[.val (.int p0), .val (.int p1), .val (.int p2), .val (.int p3), .val (.int (p0 &&& (3 : Int32))), .val (.ref eF), .val (.ref b252), .val (.int (p1 &&& (3 : Int32))), .val (.ref b288), .val (.ref lB), .unset] [(.ref eP), (.ref eF)])) st297 ?_
              refine own_st (S' := T297.setTop (mkF m 199 #[.val (.int p0), .val (.int p1), .val (.int p2), .val (.int p3), .val (.int (p0 &&& (3 : Int32))), .val (.ref eF), .val (.ref b252), .val (.int (p1 &&& (3 : Int32))), .val (.ref b288), .val (.ref lB), .unset] [])) (fun _ k => Jvm.RoadKit.acmp (g := (mkF m 177 #[.val (.int p0), .val (.int p1), .val (.int p2), .val (.int p3), .val (.int (p0 &&& (3 : Int32))), .val (.ref eF), .val (.ref b252), .val (.int (p1 &&& (3 : Int32))), .val (.ref b288), .val (.ref lB), .unset] [(.ref eP), (.ref eF)])) X297 hx rfl rfl rfl (pc0 := 177) (pc' := 199) (same := false) rfl (hb hby at_177) rfl (decide_eq_false fun q => B26 (Value.ref.inj q)) (by decide) (by decide) k) ?_
              refine own_st (S' := T297.setTop (mkF m 210 #[.val (.int p0), .val (.int p1), .val (.int p2), .val (.int p3), .val (.int (p0 &&& (3 : Int32))), .val (.ref eF), .val (.ref b252), .val (.int (p1 &&& (3 : Int32))), .val (.ref b288), .val (.ref lB), .unset] [])) (fun _ k => XS.aload X297.here hx rfl (hb hby at_199) rfl rfl (XS.ifnonnullYes X297.here hx rfl (pc0 := 201) (pc' := 210) rfl (hb hby at_201) rfl (by decide) (by decide) k)) ?_
              have S298 : Sta Z h293 "com/example/task_callbacks/taskcallbacks/store/Table" "EVENTS_BY_STATUS_AND_TYPE" "Lcom/example/task_callbacks/taskcallbacks/store/Table;" (.ref tB) := (B12.ext XO294.2)
              obtain ⟨T299, X299, e299, st299⟩ := getS2 X297 hx hZ hown (host := "") (Or.inl (hw _ own_w54)) Via.refl e297 S298 (g := (mkF m 210 #[.val (.int p0), .val (.int p1), .val (.int p2), .val (.int p3), .val (.int (p0 &&& (3 : Int32))), .val (.ref eF), .val (.ref b252), .val (.int (p1 &&& (3 : Int32))), .val (.ref b288), .val (.ref lB), .unset] [])) rfl (hb hby at_210)
              refine own_st (S' := T299.setTop (mkF m 213 #[.val (.int p0), .val (.int p1), .val (.int p2), .val (.int p3), .val (.int (p0 &&& (3 : Int32))), .val (.ref eF), .val (.ref b252), .val (.int (p1 &&& (3 : Int32))), .val (.ref b288), .val (.ref lB), .unset] [(.ref tB)])) st299 ?_
              refine own_st (S' := T299.setTop (mkF m 219 #[.val (.int p0), .val (.int p1), .val (.int p2), .val (.int p3), .val (.int (p0 &&& (3 : Int32))), .val (.ref eF), .val (.ref b252), .val (.int (p1 &&& (3 : Int32))), .val (.ref b288), .val (.ref lB), .val (.ref tB)] [(.ref eF), (.ref lB)])) (fun _ k => XS.astore X299.here hx rfl (hb hby at_213) rfl rfl (l' := #[.val (.int p0), .val (.int p1), .val (.int p2), .val (.int p3), .val (.int (p0 &&& (3 : Int32))), .val (.ref eF), .val (.ref b252), .val (.int (p1 &&& (3 : Int32))), .val (.ref b288), .val (.ref lB), .val (.ref tB)]) rfl (XS.aload X299.here hx rfl (hb hby at_215) rfl rfl (XS.aload X299.here hx rfl (hb hby at_217) rfl rfl k))) ?_
              have A301 : Exa Z h293 lB "com/example/task_callbacks/taskcallbacks/event/Listing" := (B16.ext XO294.2)
              obtain ⟨cq300, kq300, q300a, q300b, q300c⟩ := isOf hZ e299 A301
              obtain ⟨_, _, ⟨T300, L300, k300, n300⟩, -, X300, ⟨Lc300, hQ300, l300, y300, z300⟩, st300⟩ := X299.virtualBack hx (y := (⟨"com/example/task_callbacks/taskcallbacks/event/Listing", "table", "(Lcom/example/task_callbacks/taskcallbacks/event/EventStatus;)Lcom/example/task_callbacks/taskcallbacks/store/Table;"⟩ : MethodName)) (z := (⟨"com/example/task_callbacks/taskcallbacks/event/Listing", "table", "(Lcom/example/task_callbacks/taskcallbacks/event/EventStatus;)Lcom/example/task_callbacks/taskcallbacks/store/Table;"⟩ : MethodName)) hown (mvT hZ (hw _ own_w39)) (mvT hZ (hw _ own_w40)) (notFace_of_selects (args := #[]) (mvT hZ (hw _ own_w42))) (mvT hZ (hw _ own_w42)) (mvT hZ (hw _ own_w41)) (by decide) (backOf (W := 0) (own_rm_ta_oth l Z a0 hw G1 S1 P1 lA lT lS lB eP eD eF tN tT tP tQ tS tB B [] lB tB eF h293 n0 (Nat.le_trans Z0 (Nat.le_trans (Nat.le_trans (Nat.le_trans (Nat.le_trans E252.1 (Nat.le_of_eq W253.size.symm)) (Nat.le_of_eq W254.size.symm)) E288.1) K293.1)) XO294 B23 B26) hZ (hw _ own_w43) (hw _ own_w32) (by decide) (by decide)) q300a q300c (g := (mkF m 219 #[.val (.int p0), .val (.int p1), .val (.int p2), .val (.int p3), .val (.int (p0 &&& (3 : Int32))), .val (.ref eF), .val (.ref b252), .val (.int (p1 &&& (3 : Int32))), .val (.ref b288), .val (.ref lB), .val (.ref tB)] [(.ref eF), (.ref lB)])) rfl (by rw [hml]; rfl) (Steps.refl _) (argsL := [(.ref eF)]) (rest := []) (lenOf own_pd4 rfl) rfl (by show 2 * 0 + _ ≤ _; exact Nat.le_of_eq rfl) (hb hby at_219) (fun _ _ => ⟨rfl, e299, (by decide : 3 + 0 ≤ _), (by decide : 8 + 0 ≤ _)⟩)
              dsimp only [Pt.U, Pt.locs, Pt.cells, Pt.slots] at X300 l300 y300 z300 st300 hQ300
              subst l300 y300 z300
              obtain ⟨rfl, M300, e300⟩ := hQ300
              have N300 := Fr.app N295 M300
              refine own_tr (S' := T300.setTop (mkF m 222 #[.val (.int p0), .val (.int p1), .val (.int p2), .val (.int p3), .val (.int (p0 &&& (3 : Int32))), .val (.ref eF), .val (.ref b252), .val (.int (p1 &&& (3 : Int32))), .val (.ref b288), .val (.ref lB), .val (.ref tB)] [(.ref tB)])) st300 ?_
              refine own_st (S' := T300.setTop (mkF m 224 #[.val (.int p0), .val (.int p1), .val (.int p2), .val (.int p3), .val (.int (p0 &&& (3 : Int32))), .val (.ref eF), .val (.ref b252), .val (.int (p1 &&& (3 : Int32))), .val (.ref b288), .val (.ref lB), .val (.ref tB)] [(.ref tB), (.ref tB)])) (fun _ k => XS.aload X300.here hx rfl (hb hby at_222) rfl rfl k) ?_
              refine own_st (S' := T300.setTop (mkF m 227 #[.val (.int p0), .val (.int p1), .val (.int p2), .val (.int p3), .val (.int (p0 &&& (3 : Int32))), .val (.ref eF), .val (.ref b252), .val (.int (p1 &&& (3 : Int32))), .val (.ref b288), .val (.ref lB), .val (.ref tB)] [])) (fun _ k => Jvm.RoadKit.acmp (g := (mkF m 224 #[.val (.int p0), .val (.int p1), .val (.int p2), .val (.int p3), .val (.int (p0 &&& (3 : Int32))), .val (.ref eF), .val (.ref b252), .val (.int (p1 &&& (3 : Int32))), .val (.ref b288), .val (.ref lB), .val (.ref tB)] [(.ref tB), (.ref tB)])) X300 hx rfl rfl rfl (pc0 := 224) (pc' := 227) (same := true) rfl (hb hby at_224) rfl (decide_eq_true rfl) (by decide) (by decide) k) ?_
              refine own_st (S' := T300.setTop (mkF m 232 #[.val (.int p0), .val (.int p1), .val (.int p2), .val (.int p3), .val (.int (p0 &&& (3 : Int32))), .val (.ref eF), .val (.ref b252), .val (.int (p1 &&& (3 : Int32))), .val (.ref b288), .val (.ref lB), .val (.ref tB)] [(.int (1 : Int32))])) (fun _ k => XS.iconst X300.here hx rfl (hb hby at_227) (XS.goto X300.here hx rfl (pc0 := 228) (pc' := 232) rfl (hb hby at_228) (by decide) (by decide) k)) ?_
              refine own_retNW X300 hx Bd.returns hlk rfl (Or.inl ⟨rfl, (by simp), _, rfl⟩) (hb hby at_232) (by decide) (by decide) ?_
              rw [e300]
              exact ⟨rfl, N300⟩
section OwnCase
variable {args : Array Value} {s : State} {a b t : Term} {v w : Value} {x : Addr}
theorem own_ev (h : (Cond.eq a b).value args s none s [] = some true) (hb : b.eval args s none [] s = some w) (hw : (∃ z, w = .int z) ∨ w.isRef = true) : a.eval args s none [] s = some w := by
  cases ha : a.eval args s none [] s with
  | none => simp [Cond.value, ha] at h
  | some v =>
    rcases hw with ⟨z, rfl⟩ | hw
    · cases v <;> simp_all [Cond.value]
    · cases v <;> cases w <;> simp_all [Cond.value, Value.isRef]
theorem own_exa {C : String} (h : (Cond.exactly t C).value args s none s [] = some true) : ∃ x, t.eval args s none [] s = some (.ref x) ∧ Exa s s.heap x C := by
  obtain ⟨x, hx⟩ := exa_v h
  exact ⟨x, hx, Exa.start hx h⟩
theorem own_exA {C : String} (hx : t.eval args s none [] s = some (.ref x)) (h : (Cond.exactly t C).value args s none s [] = some true) : Exa s s.heap x C := Exa.start hx h
theorem own_fld {C n d : String} (ht : t.eval args s none [] s = some (.ref x)) (h : (Term.field t C n d).eval args s none [] s = some v) : Fld s s.heap x C n d v := Fld.start (by rw [← fld_at ht]; exact h)
def own_Els (args : Array Value) (s : State) (t : Term) : Nat → List Value → Prop
  | _, [] => True
  | i, v :: r => (Term.elem t (Term.int (Int32.ofNat i))).eval args s none [] s = some v ∧ own_Els args s t (i + 1) r
theorem own_hasL {cl : Cell} (ht : t.eval args s none [] s = some (.ref x)) (hc : s.heap[x]? = some cl) : ∀ (vs : List Value) (i : Nat), i + vs.length < 2 ^ 31 → own_Els args s t i vs → HasL cl i vs
  | [], _, _, _ => trivial
  | v :: r, i, hi, H => by
    have hi' : i < 2 ^ 31 := by simp only [List.length_cons] at hi; omega
    have q := (elem_in H.1 ht (Term.int_eval _) hc).2
    have e : (Int32.ofNat i).toNatClampNeg = i := by
      have := Int32.toInt_ofNat_small hi'
      simp only [Int32.toNatClampNeg, this]; omega
    rw [e] at q
    exact ⟨q, own_hasL ht hc r (i + 1) (by simp only [List.length_cons] at hi; omega) H.2⟩
theorem own_arv {ty : FieldType} {z : Int32} {vs : List Value} {dv : Value} (hf : Fit s) (ht : t.eval args s none [] s = some (.ref x)) (hA : (Cond.arrayOf t ty).value args s none s [] = some true) (hL : (Cond.eq (Term.length t) (Term.int z)).value args s none s [] = some true) (hz : ¬ z < 0) (hl : z.toNatClampNeg = vs.length) (hE : own_Els args s t 0 vs) : ∃ k, Arv s s.heap x k ty z vs dv := by
  obtain ⟨c, A⟩ := Arr.start ht hA
  have hlen := own_ev hL (Term.int_eval z) (Or.inl ⟨_, rfl⟩)
  have hat : s.arrayAt? x = some c := A.fin (Vm.Alike.refl _)
  have hb : c.slots.size < 2 ^ 31 ∧ c.slots.size.toInt32 = z := by
    simp only [Term.eval, ht, hat, Option.bind_eq_bind, Option.bind_some] at hlen
    split at hlen
    · rename_i hq
      refine ⟨hq, ?_⟩
      simpa using hlen
    · cases hlen
  have hv : 0 + vs.length < 2 ^ 31 := by
    have := (back32 hz).2; omega
  exact ⟨_, Arv.start hf A hb.1 hb.2 hz hl (own_hasL ht A.1 vs 0 hv hE)⟩
theorem own_neq {y : Addr} (h : (Cond.not (Cond.eq a b)).value args s none s [] = some true) (ha : a.eval args s none [] s = some (.ref x)) (hb : b.eval args s none [] s = some (.ref y)) : x ≠ y := fun q => by
  have := not_v h
  rw [eq_R ha hb rfl rfl] at this
  simp [q] at this
end OwnCase
set_option maxRecDepth 65536 in
set_option maxHeartbeats 40000000 in
theorem comes_1 {Post : Tables → Env → Array Value → State → Outcome → State → Prop} (hpost : ∀ tb e args s v u, (limb_1_1.after args s (.returned v) u = true ∧ limb_1_2.after args s (.returned v) u = true ∧ True) → ReturnedEndW s (.returned v) u (Jvm.fieldLocs frame_1_writes args s ++ Jvm.arrayLocs frame_1_arrays args s ++ Jvm.staticLocs frame_1_statics s) 16 1152 → Post tb e args s (.returned v) u) :
    ArmFor flags0 classFile x code maxLocals ret World_1 tables_1 room_1 Calls_1 rest_1 Pre_1 Post := by
  intro l hfl _ _ p e ha hc hk s m args below hf hA hF happ hP
  obtain ⟨hcalls, hrest, hpre⟩ := hP
  obtain ⟨-, -, -, hnamed, -, -, -, hat⟩ := (Spec.applies_iff hf).mp happ
  obtain ⟨hg, hn⟩ := and_e (Cond.before_iff.mp (show (Jvm.Cond.and given_1 narrow_1).before args s = true from hpre))
  obtain ⟨hcnt, hargs⟩ := and_e hg
  obtain ⟨w0, w1, w2, w3, rfl⟩ : ∃ w0 w1 w2 w3 : Value, args = #[w0, w1, w2, w3] := by
    have hs : args.size = 4 := by simpa [Cond.value, given_1] using hcnt
    obtain ⟨L⟩ := args
    match L, hs with
    | [w0, w1, w2, w3], _ => exact ⟨w0, w1, w2, w3, rfl⟩
  have hw := fun d (hd : d ∈ tables_1) => atoms_spec (ws := Jvm.Cond.code x code maxLocals ret :: tables_1) hat d (List.mem_cons_of_mem _ hd)
  obtain ⟨hsets, hown0⟩ := atoms_of _ (rest_1_c_eq ▸ (show rest_1_c.before _ s = true from hrest))
  have hfit : Fit s := fun {y c} hc i hi => by
    obtain ⟨ha, rfl⟩ := Array.getElem?_eq_some_iff.mp hc
    have q := List.all_eq_true.mp ((Array.all_eq_true_iff_forall_mem.mp hF) _ (Array.getElem_mem ha)) i (List.mem_range.mpr hi)
    simpa [Array.getElem?_eq_getElem hi] using q
  obtain ⟨ga0, gb0⟩ := and_e hargs
  obtain ⟨i0, ei0⟩ := is_v ga0
  obtain rfl : w0 = (.int i0) := Option.some.inj ei0
  obtain ⟨ga1, gb1⟩ := and_e gb0
  obtain ⟨i1, ei1⟩ := is_v ga1
  obtain rfl : w1 = (.int i1) := Option.some.inj ei1
  obtain ⟨ga2, gb2⟩ := and_e gb1
  obtain ⟨i2, ei2⟩ := is_v ga2
  obtain rfl : w2 = (.int i2) := Option.some.inj ei2
  obtain ⟨i3, ei3⟩ := is_v gb2
  obtain rfl : w3 = (.int i3) := Option.some.inj ei3
  obtain ⟨q0, r0⟩ := and_e hn
  obtain ⟨q1, r1⟩ := and_e r0
  obtain ⟨q2, r2⟩ := and_e r1
  obtain ⟨q3, r3⟩ := and_e r2
  obtain ⟨q4, r4⟩ := and_e r3
  obtain ⟨q5, r5⟩ := and_e r4
  obtain ⟨q6, r6⟩ := and_e r5
  obtain ⟨q7, r7⟩ := and_e r6
  obtain ⟨q8, r8⟩ := and_e r7
  obtain ⟨q9, r9⟩ := and_e r8
  obtain ⟨q10, r10⟩ := and_e r9
  obtain ⟨q11, r11⟩ := and_e r10
  obtain ⟨q12, r12⟩ := and_e r11
  obtain ⟨q13, r13⟩ := and_e r12
  obtain ⟨q14, r14⟩ := and_e r13
  obtain ⟨q15, r15⟩ := and_e r14
  obtain ⟨q16, r16⟩ := and_e r15
  obtain ⟨q17, r17⟩ := and_e r16
  obtain ⟨q18, r18⟩ := and_e r17
  obtain ⟨q19, r19⟩ := and_e r18
  obtain ⟨q20, r20⟩ := and_e r19
  obtain ⟨q21, r21⟩ := and_e r20
  obtain ⟨q22, r22⟩ := and_e r21
  have q23 := r22
  obtain ⟨G1, eG1⟩ := is_v (Cond.before_iff.mp (hsets _ (List.mem_of_getElem? (i := 1) rfl)))
  have S1 := Sta.start (C := "java/lang/String") (n := "COMPACT_STRINGS") (d := "Z") eG1 (Or.inl (hsets _ (List.mem_of_getElem? (i := 0) rfl)))
  have P1 : ¬ (G1 = (0 : Int32)) := gotF (Cond.eq_ints eG1 (Term.int_eval (0))) (not_v (Cond.before_iff.mp (hsets _ (List.mem_of_getElem? (i := 2) rfl))))
  obtain ⟨u2, eu2, Eu2⟩ := own_exa q17
  have S3 := Sta.start (C := "com/example/task_callbacks/taskcallbacks/event/Listing") (n := "ALL") (d := "Lcom/example/task_callbacks/taskcallbacks/event/Listing;") eu2 (Or.inr ⟨(hw _ own_w32), (hw _ own_w84)⟩)
  obtain ⟨u4, eu4, Eu4⟩ := own_exa q0
  have S5 := Sta.start (C := "com/example/task_callbacks/taskcallbacks/event/Listing") (n := "BY_TYPE") (d := "Lcom/example/task_callbacks/taskcallbacks/event/Listing;") eu4 (Or.inr ⟨(hw _ own_w32), (hw _ own_w35)⟩)
  obtain ⟨u6, eu6, Eu6⟩ := own_exa q12
  have S7 := Sta.start (C := "com/example/task_callbacks/taskcallbacks/event/Listing") (n := "BY_STATUS") (d := "Lcom/example/task_callbacks/taskcallbacks/event/Listing;") eu6 (Or.inr ⟨(hw _ own_w32), (hw _ own_w73)⟩)
  obtain ⟨u8, eu8, Eu8⟩ := own_exa q5
  have S9 := Sta.start (C := "com/example/task_callbacks/taskcallbacks/event/Listing") (n := "BY_STATUS_AND_TYPE") (d := "Lcom/example/task_callbacks/taskcallbacks/event/Listing;") eu8 (Or.inr ⟨(hw _ own_w32), (hw _ own_w52)⟩)
  obtain ⟨u10, eu10, Eu10⟩ := own_exa q2
  have S11 := Sta.start (C := "com/example/task_callbacks/taskcallbacks/event/EventStatus") (n := "PENDING") (d := "Lcom/example/task_callbacks/taskcallbacks/event/EventStatus;") eu10 (Or.inr ⟨(hw _ own_w45), (hw _ own_w46)⟩)
  obtain ⟨u12, eu12, Eu12⟩ := own_exa q10
  have S13 := Sta.start (C := "com/example/task_callbacks/taskcallbacks/event/EventStatus") (n := "DELIVERED") (d := "Lcom/example/task_callbacks/taskcallbacks/event/EventStatus;") eu12 (Or.inr ⟨(hw _ own_w45), (hw _ own_w57)⟩)
  obtain ⟨u14, eu14, Eu14⟩ := own_exa q4
  have S15 := Sta.start (C := "com/example/task_callbacks/taskcallbacks/event/EventStatus") (n := "FAILED") (d := "Lcom/example/task_callbacks/taskcallbacks/event/EventStatus;") eu14 (Or.inr ⟨(hw _ own_w45), (hw _ own_w50)⟩)
  obtain ⟨u16, eu16, Eu16⟩ := own_exa q18
  have S17 := Sta.start (C := "com/example/task_callbacks/taskcallbacks/store/Table") (n := "EVENTS_NEWEST_FIRST") (d := "Lcom/example/task_callbacks/taskcallbacks/store/Table;") eu16 (Or.inr ⟨(hw _ own_w37), (hw _ own_w86)⟩)
  obtain ⟨u18, eu18, Eu18⟩ := own_exa q1
  have S19 := Sta.start (C := "com/example/task_callbacks/taskcallbacks/store/Table") (n := "EVENTS_BY_TYPE") (d := "Lcom/example/task_callbacks/taskcallbacks/store/Table;") eu18 (Or.inr ⟨(hw _ own_w37), (hw _ own_w38)⟩)
  obtain ⟨u20, eu20, Eu20⟩ := own_exa q13
  have S21 := Sta.start (C := "com/example/task_callbacks/taskcallbacks/store/Table") (n := "PENDING_EVENTS") (d := "Lcom/example/task_callbacks/taskcallbacks/store/Table;") eu20 (Or.inr ⟨(hw _ own_w37), (hw _ own_w75)⟩)
  obtain ⟨u22, eu22, Eu22⟩ := own_exa q15
  have S23 := Sta.start (C := "com/example/task_callbacks/taskcallbacks/store/Table") (n := "PENDING_EVENTS_BY_TYPE") (d := "Lcom/example/task_callbacks/taskcallbacks/store/Table;") eu22 (Or.inr ⟨(hw _ own_w37), (hw _ own_w82)⟩)
  obtain ⟨u24, eu24, Eu24⟩ := own_exa q20
  have S25 := Sta.start (C := "com/example/task_callbacks/taskcallbacks/store/Table") (n := "EVENTS_BY_STATUS") (d := "Lcom/example/task_callbacks/taskcallbacks/store/Table;") eu24 (Or.inr ⟨(hw _ own_w37), (hw _ own_w88)⟩)
  obtain ⟨u26, eu26, Eu26⟩ := own_exa q8
  have S27 := Sta.start (C := "com/example/task_callbacks/taskcallbacks/store/Table") (n := "EVENTS_BY_STATUS_AND_TYPE") (d := "Lcom/example/task_callbacks/taskcallbacks/store/Table;") eu26 (Or.inr ⟨(hw _ own_w37), (hw _ own_w55)⟩)
  have v28 := own_ev q19 eu16 (Or.inr rfl)
  have F29 := own_fld eu2 v28
  have v30 := own_ev q23 eu16 (Or.inr rfl)
  have F31 := own_fld eu2 v30
  have v32 := own_ev q3 eu18 (Or.inr rfl)
  have F33 := own_fld eu4 v32
  have v34 := own_ev q22 eu18 (Or.inr rfl)
  have F35 := own_fld eu4 v34
  have v36 := own_ev q21 eu24 (Or.inr rfl)
  have F37 := own_fld eu6 v36
  have v38 := own_ev q14 eu20 (Or.inr rfl)
  have F39 := own_fld eu6 v38
  have v40 := own_ev q9 eu26 (Or.inr rfl)
  have F41 := own_fld eu8 v40
  have v42 := own_ev q16 eu22 (Or.inr rfl)
  have F43 := own_fld eu8 v42
  have v44 := own_ev q7 (Term.int_eval (0)) (Or.inl ⟨_, rfl⟩)
  have F45 := own_fld eu10 v44
  have v46 := own_ev q11 (Term.int_eval (1)) (Or.inl ⟨_, rfl⟩)
  have F47 := own_fld eu12 v46
  have v48 := own_ev q6 (Term.int_eval (2)) (Or.inl ⟨_, rfl⟩)
  have F49 := own_fld eu14 v48
  have N50 : u12 ≠ u10 := Fld.ne F47 F45 (by decide)
  have N51 : u14 ≠ u10 := Fld.ne F49 F45 (by decide)
  obtain ⟨n, o, h1, h2, h3, _, L, rfl, ⟨rfl, N⟩, hq⟩ := own_rm_law l s _ hw G1 S1 P1 u2 u4 u6 u8 u10 u12 u14 u16 u18 u20 u22 u24 u26 ⟨S3, S5, S7, S9, S11, S13, S15, S17, S19, S21, S23, S25, S27, Eu2, Eu4, Eu6, Eu8, F29, F31, F33, F35, F37, F39, F41, F43, N50, N51⟩ tables_1 i0 i1 i2 i3 s.heap s.heap.size (Nat.le_refl _) (Old.start s) p e ha hc hk s m _ below hf ((Spec.applies_iff_loose hf).mp happ).1 ⟨rfl, State.Warmed39.refl s, rfl⟩ trivial
  refine ⟨n, _, h1, h2, h3, hpost _ _ _ _ _ _ ⟨Cond.after_iff.mpr rfl, Cond.after_iff.mpr (eq_i res_at (Term.int_eval (1)) rfl), trivial⟩ ⟨hq.1, hq.2.1, hq.2.2.1, (hq.2.2.2.sift fun y hy => Or.inr (N y hy)).mono (by decide) (by decide)⟩⟩
theorem main_1_1 : Claimed_1_1 := comes_1 fun _ _ _ _ _ _ h hF => ⟨h.1, hF⟩
theorem main_1_2 : Claimed_1_2 := comes_1 fun _ _ _ _ _ _ h hF => ⟨h.2.1, hF⟩
end Jvm.Pilot.@@N@@
namespace Jvm.Pilot.@@N@@
open Jvm Jvm.ClassFile Sem Op Lib Jvm.Free Jvm.Stand Jvm.Pilot.@@N@@.Jvm.D
/-! MADE BY PROGRAM (witnessworld.py) out of the Statement's table words and the real class files: 23 classes; the members and pool entries that the words name. The judged class is class 1, her method 1. -/
namespace start1
open Jvm.ClassFile
def u (s : String) : CpInfo := .utf8 (stringToUtf16 s)
/-- a pool by its gaps: so many unusable entries, then the entry; so many at the end -/
def gap : Nat → List CpInfo → List CpInfo
  | 0, r => r
  | n + 1, r => .unusable :: gap n r
def poolList (es : List (Nat × CpInfo)) (last : Nat) : List CpInfo := es.foldr (fun e r => gap e.1 (e.2 :: r)) (gap last [])
def pool (es : List (Nat × CpInfo)) (last : Nat) : Array CpInfo := ⟨poolList es last⟩
def fileOf (pool : Array CpInfo) (this : Nat) (attrs : Array Attribute := #[]) (ms : Array MethodInfo := #[]) (fl : Nat := 33) (sup : Nat := 0) (ifs : Array Nat := #[]) (fds : Array FieldInfo := #[]) : ClassFile where
  minorVersion := 0
  majorVersion := 65
  constantPool := pool
  accessFlags := fl
  thisClass := this
  superClass := sup
  interfaces := ifs
  fields := fds
  methods := ms
  attributes := attrs
def plain (name : String) (sup : Option ClassId) : Class where
  name := name
  kind := .ordinary
  loader := none
  accessFlags := 33
  super := sup
  interfaces := #[]
  cf := none
  fields := #[]
  methods := #[]
  instanceTypes := #[]
  staticTypes := #[]
  resolved := #[]
  callSites := []
  init := .initialized
  statics := none
  mirror := none

def pool0 : Array CpInfo := pool [(5, u "<init>"), (0, u "()V"), (1, .class_ 10), (1, u "java/lang/Object")] 113

def k0c0 : Code := { maxStack := 0, maxLocals := 1, code := object_method_1_code, exceptionTable := #[], attributes := #[] }
def k0m0 : Method := { name := "<init>", desc := "()V", sig := { parameters := [], returnType := none }, accessFlags := 1, code := some k0c0 }
/-- java/lang/Object -/
def k0 : Class := { plain "java/lang/Object" none with
  accessFlags := 33
  interfaces := #[]
  cf := some (fileOf pool0 8 #[] #[{ accessFlags := 1, nameIndex := 5, descriptorIndex := 6, attributes := #[] }] 33 0 #[] #[])
  fields := #[]
  methods := #[k0m0]
  instanceTypes := #[]
  staticTypes := #[]
  resolved := Array.replicate 124 none
  statics := none }

def pool1 : Array CpInfo := pool [(2, .class_ 4), (1, u "java/lang/Object"), (0, u "<init>"), (0, u "()V"), (0, .fieldref 8 9), (0, .class_ 10), (0, .nameAndType 11 12), (0, u "com/example/task_callbacks/taskcallbacks/event/EventStatus"), (0, u "PENDING"), (0, u "Lcom/example/task_callbacks/taskcallbacks/event/EventStatus;"), (0, .fieldref 8 14), (0, .nameAndType 15 12), (0, u "DELIVERED"), (0, .fieldref 8 17), (0, .nameAndType 18 12), (0, u "FAILED"), (0, .string 20), (0, u ""), (0, .methodref 22 23), (0, .class_ 24), (0, .nameAndType 25 26), (0, u "java/lang/String"), (0, u "valueOf"), (0, u "(C)Ljava/lang/String;"), (0, .methodref 22 28), (0, .nameAndType 5 29), (0, u "([C)V"), (0, .methodref 31 32), (0, .class_ 33), (0, .nameAndType 34 35), (0, u "com/example/task_callbacks/taskcallbacks/event/Listing"), (0, u "of"), (0, u "(Lcom/example/task_callbacks/taskcallbacks/event/EventStatus;Ljava/lang/String;)Lcom/example/task_callbacks/taskcallbacks/event/Listing;"), (0, .fieldref 37 38), (0, .class_ 39), (0, .nameAndType 40 41), (0, u "com/example/task_callbacks/taskcallbacks/store/Table"), (0, u "EVENTS_NEWEST_FIRST"), (0, u "Lcom/example/task_callbacks/taskcallbacks/store/Table;"), (0, .fieldref 37 43), (0, .nameAndType 44 41), (0, u "EVENTS_BY_TYPE"), (0, .fieldref 37 46), (0, .nameAndType 47 41), (0, u "PENDING_EVENTS"), (0, .fieldref 37 49), (0, .nameAndType 50 41), (0, u "PENDING_EVENTS_BY_TYPE"), (0, .fieldref 37 52), (0, .nameAndType 53 41), (0, u "EVENTS_BY_STATUS"), (0, .fieldref 37 55), (0, .nameAndType 56 41), (0, u "EVENTS_BY_STATUS_AND_TYPE"), (0, .methodref 31 58), (0, .nameAndType 59 60), (0, u "table"), (0, u "(Lcom/example/task_callbacks/taskcallbacks/event/EventStatus;)Lcom/example/task_callbacks/taskcallbacks/store/Table;"), (0, .class_ 62), (0, u "com/example/task_callbacks/taskcallbacks/event/ListingOfPinLaw"), (2, u "law"), (0, u "(IIII)Z")] 5

def k1m0 : Method := { name := "<init>", desc := "()V", sig := { parameters := [], returnType := none }, accessFlags := 1, code := none }
def k1c1 : Code := { maxStack := 5, maxLocals := 11, code := code, exceptionTable := #[], attributes := #[] }
def k1m1 : Method := { name := "law", desc := "(IIII)Z", sig := { parameters := [.int, .int, .int, .int], returnType := some .boolean }, accessFlags := 9, code := some k1c1 }
/-- com/example/task_callbacks/taskcallbacks/event/ListingOfPinLaw -/
def k1 : Class := { plain "com/example/task_callbacks/taskcallbacks/event/ListingOfPinLaw" (some 0) with
  accessFlags := 49
  interfaces := #[]
  cf := some (fileOf pool1 61 #[] #[{ accessFlags := 1, nameIndex := 5, descriptorIndex := 6, attributes := #[] }, { accessFlags := 9, nameIndex := 65, descriptorIndex := 66, attributes := #[] }] 49 2 #[] #[])
  fields := #[]
  methods := #[k1m0, k1m1]
  instanceTypes := #[]
  staticTypes := #[]
  resolved := Array.replicate 72 none
  statics := none }

def pool2 : Array CpInfo := pool [(1, .class_ 2), (0, u "java/io/Serializable"), (0, .class_ 4), (0, u "java/lang/Object")] 2

/-- java/io/Serializable -/
def k2 : Class := { plain "java/io/Serializable" (some 0) with
  accessFlags := 1537
  interfaces := #[]
  cf := some (fileOf pool2 1 #[] #[] 1537 3 #[] #[])
  fields := #[]
  methods := #[]
  instanceTypes := #[]
  staticTypes := #[]
  resolved := Array.replicate 7 none
  statics := none }

def pool3 : Array CpInfo := pool [(1, .class_ 2), (0, u "java/lang/Comparable"), (0, .class_ 4), (0, u "java/lang/Object")] 7

/-- java/lang/Comparable -/
def k3 : Class := { plain "java/lang/Comparable" (some 0) with
  accessFlags := 1537
  interfaces := #[]
  cf := some (fileOf pool3 1 #[] #[] 1537 3 #[] #[])
  fields := #[]
  methods := #[]
  instanceTypes := #[]
  staticTypes := #[]
  resolved := Array.replicate 12 none
  statics := none }

def pool4 : Array CpInfo := pool [(2, .class_ 4), (1, u "java/lang/CharSequence"), (42, .class_ 48), (0, u "java/lang/CharSequence$1CodePointIterator"), (10, .class_ 60), (0, u "java/lang/CharSequence$1CharIterator"), (5, .class_ 67), (0, u "java/lang/Object")] 63

/-- java/lang/CharSequence -/
def k4 : Class := { plain "java/lang/CharSequence" (some 0) with
  accessFlags := 1537
  interfaces := #[]
  cf := some (fileOf pool4 2 #[.nestMembers #[47, 59]] #[] 1537 66 #[] #[])
  fields := #[]
  methods := #[]
  instanceTypes := #[]
  staticTypes := #[]
  resolved := Array.replicate 131 none
  statics := none }

def pool5 : Array CpInfo := pool [(1, .class_ 2), (0, u "java/lang/constant/Constable"), (0, .class_ 4), (0, u "java/lang/Object")] 6

/-- java/lang/constant/Constable -/
def k5 : Class := { plain "java/lang/constant/Constable" (some 0) with
  accessFlags := 1537
  interfaces := #[]
  cf := some (fileOf pool5 1 #[] #[] 1537 3 #[] #[])
  fields := #[]
  methods := #[]
  instanceTypes := #[]
  staticTypes := #[]
  resolved := Array.replicate 11 none
  statics := none }

def pool6 : Array CpInfo := pool [(1, .class_ 2), (0, u "java/lang/constant/ConstantDesc"), (0, .class_ 4), (0, u "java/lang/Object")] 32

/-- java/lang/constant/ConstantDesc -/
def k6 : Class := { plain "java/lang/constant/ConstantDesc" (some 0) with
  accessFlags := 1537
  interfaces := #[]
  cf := some (fileOf pool6 1 #[] #[] 1537 3 #[] #[])
  fields := #[]
  methods := #[]
  instanceTypes := #[]
  staticTypes := #[]
  resolved := Array.replicate 37 none
  statics := none }

def pool7 : Array CpInfo := pool [(1, .methodref 2 3), (0, .class_ 4), (0, .nameAndType 5 6), (0, u "java/lang/Object"), (0, u "<init>"), (0, u "()V"), (2, .fieldref 10 11), (0, .class_ 12), (0, .nameAndType 13 14), (0, u "java/lang/String"), (0, u "value"), (0, u "[B"), (0, .fieldref 10 16), (0, .nameAndType 17 18), (0, u "coder"), (0, u "B"), (2, u "hash"), (0, u "I"), (2, u "hashIsZero"), (0, u "Z"), (0, .methodref 10 28), (0, .nameAndType 5 29), (0, u "([CIILjava/lang/Void;)V"), (8, .fieldref 10 39), (0, .nameAndType 40 26), (0, u "COMPACT_STRINGS"), (1, .class_ 44), (1, u "java/lang/StringUTF16"), (0, u "compress"), (1, .methodref 42 48), (0, .nameAndType 49 50), (0, u "coderFromArrayLen"), (0, u "([BI)B"), (2, u "toBytes"), (53, .class_ 109), (1, u "java/lang/StringLatin1"), (67, .methodref 42 178), (0, .nameAndType 45 179), (0, u "([CII)[B"), (29, .methodref 10 210), (0, .nameAndType 5 211), (0, u "([BB)V"), (157, u "(C)Z"), (205, .class_ 576), (0, u "java/lang/CharSequence"), (22, u "CASE_INSENSITIVE_ORDER"), (0, u "Ljava/util/Comparator;"), (181, u "valueOf"), (0, u "(C)Ljava/lang/String;"), (226, u "([C)V"), (4, .methodref 107 1016), (0, .nameAndType 1017 369), (0, u "canEncode"), (0, .methodref 107 1019), (0, .nameAndType 53 1020), (0, u "(C)[B"), (80, u "serialPersistentFields"), (0, u "[Ljava/io/ObjectStreamField;"), (0, .class_ 1104), (0, u "java/lang/String$CaseInsensitiveComparator"), (1, .class_ 1107), (0, u "java/io/Serializable"), (0, .class_ 1109), (0, u "java/lang/Comparable"), (0, .class_ 1111), (0, u "java/lang/constant/Constable"), (0, .class_ 1113), (0, u "java/lang/constant/ConstantDesc"), (2, u "serialVersionUID"), (0, u "J"), (3, u "REPL"), (0, u "C"), (2, u "LATIN1"), (1, u "UTF16")] 323

def k7m0 : Method := { name := "<init>", desc := "()V", sig := { parameters := [], returnType := none }, accessFlags := 1, code := none }
def k7c1 : Code := { maxStack := 5, maxLocals := 2, code := jdk_42_method_3_code, exceptionTable := #[], attributes := #[] }
def k7m1 : Method := { name := "<init>", desc := "([C)V", sig := { parameters := [(.array .char)], returnType := none }, accessFlags := 1, code := some k7c1 }
def k7c2 : Code := { maxStack := 4, maxLocals := 1, code := jdk_42_method_139_code, exceptionTable := #[], attributes := #[] }
def k7m2 : Method := { name := "valueOf", desc := "(C)Ljava/lang/String;", sig := { parameters := [.char], returnType := some (.object "java/lang/String") }, accessFlags := 9, code := some k7c2 }
def k7c3 : Code := { maxStack := 4, maxLocals := 6, code := jdk_42_method_149_code, exceptionTable := #[], attributes := #[] }
def k7m3 : Method := { name := "<init>", desc := "([CIILjava/lang/Void;)V", sig := { parameters := [(.array .char), .int, .int, (.object "java/lang/Void")], returnType := none }, accessFlags := 2, code := some k7c3 }
def k7c4 : Code := { maxStack := 2, maxLocals := 3, code := jdk_42_method_151_code, exceptionTable := #[], attributes := #[] }
def k7m4 : Method := { name := "<init>", desc := "([BB)V", sig := { parameters := [(.array .byte), .byte], returnType := none }, accessFlags := 0, code := some k7c4 }
/-- java/lang/String -/
def k7 : Class := { plain "java/lang/String" (some 0) with
  accessFlags := 49
  interfaces := #[2, 3, 4, 5, 6]
  cf := some (fileOf pool7 10 #[.nestMembers #[1103]] #[{ accessFlags := 1, nameIndex := 5, descriptorIndex := 6, attributes := #[] }, { accessFlags := 1, nameIndex := 5, descriptorIndex := 1010, attributes := #[] }, { accessFlags := 9, nameIndex := 782, descriptorIndex := 783, attributes := #[] }, { accessFlags := 2, nameIndex := 5, descriptorIndex := 29, attributes := #[] }, { accessFlags := 0, nameIndex := 5, descriptorIndex := 211, attributes := #[] }] 49 2 #[1106, 1108, 575, 1110, 1112] #[{ accessFlags := 18, nameIndex := 13, descriptorIndex := 14, attributes := #[] }, { accessFlags := 18, nameIndex := 17, descriptorIndex := 18, attributes := #[] }, { accessFlags := 2, nameIndex := 21, descriptorIndex := 22, attributes := #[] }, { accessFlags := 2, nameIndex := 25, descriptorIndex := 26, attributes := #[] }, { accessFlags := 26, nameIndex := 1116, descriptorIndex := 1117, attributes := #[] }, { accessFlags := 24, nameIndex := 40, descriptorIndex := 26, attributes := #[] }, { accessFlags := 26, nameIndex := 1101, descriptorIndex := 1102, attributes := #[] }, { accessFlags := 26, nameIndex := 1121, descriptorIndex := 1122, attributes := #[] }, { accessFlags := 25, nameIndex := 599, descriptorIndex := 600, attributes := #[] }, { accessFlags := 24, nameIndex := 1125, descriptorIndex := 18, attributes := #[] }, { accessFlags := 24, nameIndex := 1127, descriptorIndex := 18, attributes := #[] }])
  fields := #[{ name := "value", type := (.array .byte), accessFlags := 18, slot := 0, constantValue := 0 }, { name := "coder", type := .byte, accessFlags := 18, slot := 1, constantValue := 0 }, { name := "hash", type := .int, accessFlags := 2, slot := 2, constantValue := 0 }, { name := "hashIsZero", type := .boolean, accessFlags := 2, slot := 3, constantValue := 0 }, { name := "serialVersionUID", type := .long, accessFlags := 26, slot := 0, constantValue := 0 }, { name := "COMPACT_STRINGS", type := .boolean, accessFlags := 24, slot := 1, constantValue := 0 }, { name := "serialPersistentFields", type := (.array (.object "java/io/ObjectStreamField")), accessFlags := 26, slot := 2, constantValue := 0 }, { name := "REPL", type := .char, accessFlags := 26, slot := 3, constantValue := 0 }, { name := "CASE_INSENSITIVE_ORDER", type := (.object "java/util/Comparator"), accessFlags := 25, slot := 4, constantValue := 0 }, { name := "LATIN1", type := .byte, accessFlags := 24, slot := 5, constantValue := 0 }, { name := "UTF16", type := .byte, accessFlags := 24, slot := 6, constantValue := 0 }]
  methods := #[k7m0, k7m1, k7m2, k7m3, k7m4]
  instanceTypes := #[(.array .byte), .byte, .int, .boolean]
  staticTypes := #[.long, .boolean, (.array (.object "java/io/ObjectStreamField")), .char, (.object "java/util/Comparator"), .byte, .byte]
  resolved := Array.replicate 1451 none
  statics := some 0 }

def pool8 : Array CpInfo := pool [(6, .class_ 8), (1, u "java/lang/Object"), (0, u "<init>"), (0, u "()V"), (1, .class_ 14), (1, u "java/lang/StringUTF16"), (31, u "$assertionsDisabled"), (0, u "Z"), (13, u "HI_BYTE_SHIFT"), (0, u "I"), (2, u "LO_BYTE_SHIFT"), (49, .methodref 12 116), (0, .nameAndType 117 118), (0, u "compress"), (0, u "([CI[BII)I"), (3, u "([CII)[B"), (138, u "coderFromArrayLen"), (0, u "([BI)B"), (106, .class_ 371), (1, u "java/lang/StringUTF16$LinesSpliterator"), (58, u "MAX_LENGTH"), (196, .class_ 628), (0, u "java/lang/StringUTF16$CodePointsSpliterator"), (0, .class_ 630), (0, u "java/lang/StringUTF16$CharsSpliterator")] 4

def k8m0 : Method := { name := "<init>", desc := "()V", sig := { parameters := [], returnType := none }, accessFlags := 0, code := none }
def k8c1 : Code := { maxStack := 2, maxLocals := 2, code := jdk_52_method_15_code, exceptionTable := #[], attributes := #[] }
def k8m1 : Method := { name := "coderFromArrayLen", desc := "([BI)B", sig := { parameters := [(.array .byte), .int], returnType := some .byte }, accessFlags := 8, code := some k8c1 }
def k8c2 : Code := { maxStack := 5, maxLocals := 6, code := jdk_52_method_16_code, exceptionTable := #[], attributes := #[] }
def k8m2 : Method := { name := "compress", desc := "([CII)[B", sig := { parameters := [(.array .char), .int, .int], returnType := some (.array .byte) }, accessFlags := 9, code := some k8c2 }
def k8c3 : Code := { maxStack := 3, maxLocals := 7, code := jdk_52_method_21_code, exceptionTable := #[], attributes := #[] }
def k8m3 : Method := { name := "compress", desc := "([CI[BII)I", sig := { parameters := [(.array .char), .int, (.array .byte), .int, .int], returnType := some .int }, accessFlags := 9, code := some k8c3 }
/-- java/lang/StringUTF16 -/
def k8 : Class := { plain "java/lang/StringUTF16" (some 0) with
  accessFlags := 48
  interfaces := #[]
  cf := some (fileOf pool8 12 #[.nestMembers #[627, 629, 369]] #[{ accessFlags := 0, nameIndex := 9, descriptorIndex := 10, attributes := #[] }, { accessFlags := 8, nameIndex := 261, descriptorIndex := 262, attributes := #[] }, { accessFlags := 9, nameIndex := 117, descriptorIndex := 122, attributes := #[] }, { accessFlags := 9, nameIndex := 117, descriptorIndex := 118, attributes := #[] }] 48 6 #[] #[{ accessFlags := 26, nameIndex := 61, descriptorIndex := 62, attributes := #[] }, { accessFlags := 26, nameIndex := 65, descriptorIndex := 62, attributes := #[] }, { accessFlags := 24, nameIndex := 430, descriptorIndex := 62, attributes := #[] }, { accessFlags := 4120, nameIndex := 46, descriptorIndex := 47, attributes := #[] }])
  fields := #[{ name := "HI_BYTE_SHIFT", type := .int, accessFlags := 26, slot := 0, constantValue := 0 }, { name := "LO_BYTE_SHIFT", type := .int, accessFlags := 26, slot := 1, constantValue := 0 }, { name := "MAX_LENGTH", type := .int, accessFlags := 24, slot := 2, constantValue := 0 }, { name := "$assertionsDisabled", type := .boolean, accessFlags := 4120, slot := 3, constantValue := 0 }]
  methods := #[k8m0, k8m1, k8m2, k8m3]
  instanceTypes := #[]
  staticTypes := #[.int, .int, .int, .boolean]
  resolved := Array.replicate 635 none
  statics := none }

def pool9 : Array CpInfo := pool [(2, .class_ 4), (1, u "java/lang/Enum"), (0, u "name"), (0, u "Ljava/lang/String;"), (2, u "ordinal"), (0, u "I"), (1, .class_ 14), (1, u "java/lang/Object"), (4, u "hash"), (86, .class_ 108), (1, u "java/lang/Enum$EnumDesc"), (2, .class_ 112), (0, u "java/lang/constant/Constable"), (0, .class_ 114), (0, u "java/lang/Comparable"), (0, .class_ 116), (0, u "java/io/Serializable")] 87

/-- java/lang/Enum -/
def k9 : Class := { plain "java/lang/Enum" (some 0) with
  accessFlags := 1057
  interfaces := #[5, 3, 2]
  cf := some (fileOf pool9 2 #[.nestMembers #[106]] #[] 1057 12 #[111, 113, 115] #[{ accessFlags := 18, nameIndex := 5, descriptorIndex := 6, attributes := #[] }, { accessFlags := 18, nameIndex := 9, descriptorIndex := 10, attributes := #[] }, { accessFlags := 2, nameIndex := 19, descriptorIndex := 10, attributes := #[] }])
  fields := #[{ name := "name", type := (.object "java/lang/String"), accessFlags := 18, slot := 0, constantValue := 0 }, { name := "ordinal", type := .int, accessFlags := 18, slot := 1, constantValue := 0 }, { name := "hash", type := .int, accessFlags := 2, slot := 2, constantValue := 0 }]
  methods := #[]
  instanceTypes := #[(.object "java/lang/String"), .int, .int]
  staticTypes := #[]
  resolved := Array.replicate 204 none
  statics := none }

def pool10 : Array CpInfo := pool [(1, .class_ 2), (0, u "com/example/task_callbacks/taskcallbacks/event/Listing"), (0, .fieldref 1 4), (0, .nameAndType 5 6), (0, u "ALL"), (0, u "Lcom/example/task_callbacks/taskcallbacks/event/Listing;"), (0, .fieldref 1 8), (0, .nameAndType 9 6), (0, u "BY_TYPE"), (0, .fieldref 1 11), (0, .nameAndType 12 6), (0, u "BY_STATUS"), (0, .fieldref 1 14), (0, .nameAndType 15 6), (0, u "BY_STATUS_AND_TYPE"), (2, u "$VALUES"), (0, u "[Lcom/example/task_callbacks/taskcallbacks/event/Listing;"), (6, .class_ 28), (1, u "java/lang/Enum"), (6, .fieldref 1 36), (0, .nameAndType 37 38), (0, u "settled"), (0, u "Lcom/example/task_callbacks/taskcallbacks/store/Table;"), (0, .fieldref 1 40), (0, .nameAndType 41 38), (0, u "pending"), (2, u "byType"), (0, u "Z"), (0, .fieldref 47 48), (0, .class_ 49), (0, .nameAndType 50 51), (0, u "com/example/task_callbacks/taskcallbacks/event/EventStatus"), (0, u "PENDING"), (0, u "Lcom/example/task_callbacks/taskcallbacks/event/EventStatus;"), (51, u "of"), (0, u "(Lcom/example/task_callbacks/taskcallbacks/event/EventStatus;Ljava/lang/String;)Lcom/example/task_callbacks/taskcallbacks/event/Listing;"), (1, u "table"), (0, u "(Lcom/example/task_callbacks/taskcallbacks/event/EventStatus;)Lcom/example/task_callbacks/taskcallbacks/store/Table;")] 26

def k10c0 : Code := { maxStack := 1, maxLocals := 2, code := prog_18_method_4_code, exceptionTable := #[], attributes := #[] }
def k10m0 : Method := { name := "of", desc := "(Lcom/example/task_callbacks/taskcallbacks/event/EventStatus;Ljava/lang/String;)Lcom/example/task_callbacks/taskcallbacks/event/Listing;", sig := { parameters := [(.object "com/example/task_callbacks/taskcallbacks/event/EventStatus"), (.object "java/lang/String")], returnType := some (.object "com/example/task_callbacks/taskcallbacks/event/Listing") }, accessFlags := 8, code := some k10c0 }
def k10c1 : Code := { maxStack := 2, maxLocals := 2, code := prog_18_method_5_code, exceptionTable := #[], attributes := #[] }
def k10m1 : Method := { name := "table", desc := "(Lcom/example/task_callbacks/taskcallbacks/event/EventStatus;)Lcom/example/task_callbacks/taskcallbacks/store/Table;", sig := { parameters := [(.object "com/example/task_callbacks/taskcallbacks/event/EventStatus")], returnType := some (.object "com/example/task_callbacks/taskcallbacks/store/Table") }, accessFlags := 0, code := some k10c1 }
/-- com/example/task_callbacks/taskcallbacks/event/Listing -/
def k10 : Class := { plain "com/example/task_callbacks/taskcallbacks/event/Listing" (some 9) with
  accessFlags := 16432
  interfaces := #[]
  cf := some (fileOf pool10 1 #[] #[{ accessFlags := 8, nameIndex := 103, descriptorIndex := 104, attributes := #[] }, { accessFlags := 0, nameIndex := 106, descriptorIndex := 107, attributes := #[] }] 16432 26 #[] #[{ accessFlags := 16409, nameIndex := 5, descriptorIndex := 6, attributes := #[] }, { accessFlags := 16409, nameIndex := 9, descriptorIndex := 6, attributes := #[] }, { accessFlags := 16409, nameIndex := 12, descriptorIndex := 6, attributes := #[] }, { accessFlags := 16409, nameIndex := 15, descriptorIndex := 6, attributes := #[] }, { accessFlags := 18, nameIndex := 37, descriptorIndex := 38, attributes := #[] }, { accessFlags := 18, nameIndex := 41, descriptorIndex := 38, attributes := #[] }, { accessFlags := 18, nameIndex := 44, descriptorIndex := 45, attributes := #[] }, { accessFlags := 4122, nameIndex := 18, descriptorIndex := 19, attributes := #[] }])
  fields := #[{ name := "ALL", type := (.object "com/example/task_callbacks/taskcallbacks/event/Listing"), accessFlags := 16409, slot := 0, constantValue := 0 }, { name := "BY_TYPE", type := (.object "com/example/task_callbacks/taskcallbacks/event/Listing"), accessFlags := 16409, slot := 1, constantValue := 0 }, { name := "BY_STATUS", type := (.object "com/example/task_callbacks/taskcallbacks/event/Listing"), accessFlags := 16409, slot := 2, constantValue := 0 }, { name := "BY_STATUS_AND_TYPE", type := (.object "com/example/task_callbacks/taskcallbacks/event/Listing"), accessFlags := 16409, slot := 3, constantValue := 0 }, { name := "settled", type := (.object "com/example/task_callbacks/taskcallbacks/store/Table"), accessFlags := 18, slot := 3, constantValue := 0 }, { name := "pending", type := (.object "com/example/task_callbacks/taskcallbacks/store/Table"), accessFlags := 18, slot := 4, constantValue := 0 }, { name := "byType", type := .boolean, accessFlags := 18, slot := 5, constantValue := 0 }, { name := "$VALUES", type := (.array (.object "com/example/task_callbacks/taskcallbacks/event/Listing")), accessFlags := 4122, slot := 4, constantValue := 0 }]
  methods := #[k10m0, k10m1]
  instanceTypes := #[(.object "java/lang/String"), .int, .int, (.object "com/example/task_callbacks/taskcallbacks/store/Table"), (.object "com/example/task_callbacks/taskcallbacks/store/Table"), .boolean]
  staticTypes := #[(.object "com/example/task_callbacks/taskcallbacks/event/Listing"), (.object "com/example/task_callbacks/taskcallbacks/event/Listing"), (.object "com/example/task_callbacks/taskcallbacks/event/Listing"), (.object "com/example/task_callbacks/taskcallbacks/event/Listing"), (.array (.object "com/example/task_callbacks/taskcallbacks/event/Listing"))]
  resolved := Array.replicate 134 none
  statics := some 1 }

def pool11 : Array CpInfo := pool [(1, .class_ 2), (0, u "com/example/task_callbacks/taskcallbacks/store/Table"), (2, u "SUBSCRIPTIONS"), (0, u "Lcom/example/task_callbacks/taskcallbacks/store/Table;"), (2, u "CANCELLED_SUBSCRIPTIONS"), (2, u "CANCELS_UNDER_WAY"), (2, u "EVENTS"), (2, u "EVENTS_NEWEST_FIRST"), (2, u "EVENT_SUMMARIES"), (2, u "EVENTS_BY_TYPE"), (2, u "EVENTS_BY_STATUS"), (2, u "EVENTS_BY_STATUS_AND_TYPE"), (2, u "PENDING_EVENTS"), (2, u "PENDING_EVENTS_BY_TYPE"), (2, u "EVENTS_BY_SETTLEMENT"), (2, u "DELIVERIES"), (2, u "PENDING_DELIVERIES"), (2, u "DELIVERIES_DUE"), (2, u "DUE_BY_TIME"), (2, u "DUE_BY_TARGET"), (2, u "PENDING_BY_TARGET"), (2, u "ATTEMPTS_UNDER_WAY"), (2, u "DELIVERIES_BY_TARGET"), (2, u "JOBS"), (2, u "JOB_RESULTS"), (2, u "JOBS_BY_COMPLETION"), (2, u "IDEMPOTENCY_KEYS"), (2, u "IDEMPOTENCY_KEYS_BY_RECORD"), (2, u "COUNTERS"), (2, u "$VALUES"), (0, u "[Lcom/example/task_callbacks/taskcallbacks/store/Table;"), (6, .class_ 94), (1, u "java/lang/Enum"), (11, u "churns"), (0, u "Z")] 72

/-- com/example/task_callbacks/taskcallbacks/store/Table -/
def k11 : Class := { plain "com/example/task_callbacks/taskcallbacks/store/Table" (some 9) with
  accessFlags := 16433
  interfaces := #[]
  cf := some (fileOf pool11 1 #[] #[] 16433 92 #[] #[{ accessFlags := 16409, nameIndex := 5, descriptorIndex := 6, attributes := #[] }, { accessFlags := 16409, nameIndex := 9, descriptorIndex := 6, attributes := #[] }, { accessFlags := 16409, nameIndex := 12, descriptorIndex := 6, attributes := #[] }, { accessFlags := 16409, nameIndex := 15, descriptorIndex := 6, attributes := #[] }, { accessFlags := 16409, nameIndex := 18, descriptorIndex := 6, attributes := #[] }, { accessFlags := 16409, nameIndex := 21, descriptorIndex := 6, attributes := #[] }, { accessFlags := 16409, nameIndex := 24, descriptorIndex := 6, attributes := #[] }, { accessFlags := 16409, nameIndex := 27, descriptorIndex := 6, attributes := #[] }, { accessFlags := 16409, nameIndex := 30, descriptorIndex := 6, attributes := #[] }, { accessFlags := 16409, nameIndex := 33, descriptorIndex := 6, attributes := #[] }, { accessFlags := 16409, nameIndex := 36, descriptorIndex := 6, attributes := #[] }, { accessFlags := 16409, nameIndex := 39, descriptorIndex := 6, attributes := #[] }, { accessFlags := 16409, nameIndex := 42, descriptorIndex := 6, attributes := #[] }, { accessFlags := 16409, nameIndex := 45, descriptorIndex := 6, attributes := #[] }, { accessFlags := 16409, nameIndex := 48, descriptorIndex := 6, attributes := #[] }, { accessFlags := 16409, nameIndex := 51, descriptorIndex := 6, attributes := #[] }, { accessFlags := 16409, nameIndex := 54, descriptorIndex := 6, attributes := #[] }, { accessFlags := 16409, nameIndex := 57, descriptorIndex := 6, attributes := #[] }, { accessFlags := 16409, nameIndex := 60, descriptorIndex := 6, attributes := #[] }, { accessFlags := 16409, nameIndex := 63, descriptorIndex := 6, attributes := #[] }, { accessFlags := 16409, nameIndex := 66, descriptorIndex := 6, attributes := #[] }, { accessFlags := 16409, nameIndex := 69, descriptorIndex := 6, attributes := #[] }, { accessFlags := 16409, nameIndex := 72, descriptorIndex := 6, attributes := #[] }, { accessFlags := 16409, nameIndex := 75, descriptorIndex := 6, attributes := #[] }, { accessFlags := 16409, nameIndex := 78, descriptorIndex := 6, attributes := #[] }, { accessFlags := 16409, nameIndex := 81, descriptorIndex := 6, attributes := #[] }, { accessFlags := 18, nameIndex := 106, descriptorIndex := 107, attributes := #[] }, { accessFlags := 4122, nameIndex := 84, descriptorIndex := 85, attributes := #[] }])
  fields := #[{ name := "SUBSCRIPTIONS", type := (.object "com/example/task_callbacks/taskcallbacks/store/Table"), accessFlags := 16409, slot := 0, constantValue := 0 }, { name := "CANCELLED_SUBSCRIPTIONS", type := (.object "com/example/task_callbacks/taskcallbacks/store/Table"), accessFlags := 16409, slot := 1, constantValue := 0 }, { name := "CANCELS_UNDER_WAY", type := (.object "com/example/task_callbacks/taskcallbacks/store/Table"), accessFlags := 16409, slot := 2, constantValue := 0 }, { name := "EVENTS", type := (.object "com/example/task_callbacks/taskcallbacks/store/Table"), accessFlags := 16409, slot := 3, constantValue := 0 }, { name := "EVENTS_NEWEST_FIRST", type := (.object "com/example/task_callbacks/taskcallbacks/store/Table"), accessFlags := 16409, slot := 4, constantValue := 0 }, { name := "EVENT_SUMMARIES", type := (.object "com/example/task_callbacks/taskcallbacks/store/Table"), accessFlags := 16409, slot := 5, constantValue := 0 }, { name := "EVENTS_BY_TYPE", type := (.object "com/example/task_callbacks/taskcallbacks/store/Table"), accessFlags := 16409, slot := 6, constantValue := 0 }, { name := "EVENTS_BY_STATUS", type := (.object "com/example/task_callbacks/taskcallbacks/store/Table"), accessFlags := 16409, slot := 7, constantValue := 0 }, { name := "EVENTS_BY_STATUS_AND_TYPE", type := (.object "com/example/task_callbacks/taskcallbacks/store/Table"), accessFlags := 16409, slot := 8, constantValue := 0 }, { name := "PENDING_EVENTS", type := (.object "com/example/task_callbacks/taskcallbacks/store/Table"), accessFlags := 16409, slot := 9, constantValue := 0 }, { name := "PENDING_EVENTS_BY_TYPE", type := (.object "com/example/task_callbacks/taskcallbacks/store/Table"), accessFlags := 16409, slot := 10, constantValue := 0 }, { name := "EVENTS_BY_SETTLEMENT", type := (.object "com/example/task_callbacks/taskcallbacks/store/Table"), accessFlags := 16409, slot := 11, constantValue := 0 }, { name := "DELIVERIES", type := (.object "com/example/task_callbacks/taskcallbacks/store/Table"), accessFlags := 16409, slot := 12, constantValue := 0 }, { name := "PENDING_DELIVERIES", type := (.object "com/example/task_callbacks/taskcallbacks/store/Table"), accessFlags := 16409, slot := 13, constantValue := 0 }, { name := "DELIVERIES_DUE", type := (.object "com/example/task_callbacks/taskcallbacks/store/Table"), accessFlags := 16409, slot := 14, constantValue := 0 }, { name := "DUE_BY_TIME", type := (.object "com/example/task_callbacks/taskcallbacks/store/Table"), accessFlags := 16409, slot := 15, constantValue := 0 }, { name := "DUE_BY_TARGET", type := (.object "com/example/task_callbacks/taskcallbacks/store/Table"), accessFlags := 16409, slot := 16, constantValue := 0 }, { name := "PENDING_BY_TARGET", type := (.object "com/example/task_callbacks/taskcallbacks/store/Table"), accessFlags := 16409, slot := 17, constantValue := 0 }, { name := "ATTEMPTS_UNDER_WAY", type := (.object "com/example/task_callbacks/taskcallbacks/store/Table"), accessFlags := 16409, slot := 18, constantValue := 0 }, { name := "DELIVERIES_BY_TARGET", type := (.object "com/example/task_callbacks/taskcallbacks/store/Table"), accessFlags := 16409, slot := 19, constantValue := 0 }, { name := "JOBS", type := (.object "com/example/task_callbacks/taskcallbacks/store/Table"), accessFlags := 16409, slot := 20, constantValue := 0 }, { name := "JOB_RESULTS", type := (.object "com/example/task_callbacks/taskcallbacks/store/Table"), accessFlags := 16409, slot := 21, constantValue := 0 }, { name := "JOBS_BY_COMPLETION", type := (.object "com/example/task_callbacks/taskcallbacks/store/Table"), accessFlags := 16409, slot := 22, constantValue := 0 }, { name := "IDEMPOTENCY_KEYS", type := (.object "com/example/task_callbacks/taskcallbacks/store/Table"), accessFlags := 16409, slot := 23, constantValue := 0 }, { name := "IDEMPOTENCY_KEYS_BY_RECORD", type := (.object "com/example/task_callbacks/taskcallbacks/store/Table"), accessFlags := 16409, slot := 24, constantValue := 0 }, { name := "COUNTERS", type := (.object "com/example/task_callbacks/taskcallbacks/store/Table"), accessFlags := 16409, slot := 25, constantValue := 0 }, { name := "churns", type := .boolean, accessFlags := 18, slot := 3, constantValue := 0 }, { name := "$VALUES", type := (.array (.object "com/example/task_callbacks/taskcallbacks/store/Table")), accessFlags := 4122, slot := 26, constantValue := 0 }]
  methods := #[]
  instanceTypes := #[(.object "java/lang/String"), .int, .int, .boolean]
  staticTypes := #[(.object "com/example/task_callbacks/taskcallbacks/store/Table"), (.object "com/example/task_callbacks/taskcallbacks/store/Table"), (.object "com/example/task_callbacks/taskcallbacks/store/Table"), (.object "com/example/task_callbacks/taskcallbacks/store/Table"), (.object "com/example/task_callbacks/taskcallbacks/store/Table"), (.object "com/example/task_callbacks/taskcallbacks/store/Table"), (.object "com/example/task_callbacks/taskcallbacks/store/Table"), (.object "com/example/task_callbacks/taskcallbacks/store/Table"), (.object "com/example/task_callbacks/taskcallbacks/store/Table"), (.object "com/example/task_callbacks/taskcallbacks/store/Table"), (.object "com/example/task_callbacks/taskcallbacks/store/Table"), (.object "com/example/task_callbacks/taskcallbacks/store/Table"), (.object "com/example/task_callbacks/taskcallbacks/store/Table"), (.object "com/example/task_callbacks/taskcallbacks/store/Table"), (.object "com/example/task_callbacks/taskcallbacks/store/Table"), (.object "com/example/task_callbacks/taskcallbacks/store/Table"), (.object "com/example/task_callbacks/taskcallbacks/store/Table"), (.object "com/example/task_callbacks/taskcallbacks/store/Table"), (.object "com/example/task_callbacks/taskcallbacks/store/Table"), (.object "com/example/task_callbacks/taskcallbacks/store/Table"), (.object "com/example/task_callbacks/taskcallbacks/store/Table"), (.object "com/example/task_callbacks/taskcallbacks/store/Table"), (.object "com/example/task_callbacks/taskcallbacks/store/Table"), (.object "com/example/task_callbacks/taskcallbacks/store/Table"), (.object "com/example/task_callbacks/taskcallbacks/store/Table"), (.object "com/example/task_callbacks/taskcallbacks/store/Table"), (.array (.object "com/example/task_callbacks/taskcallbacks/store/Table"))]
  resolved := Array.replicate 180 none
  statics := some 2 }

def pool12 : Array CpInfo := pool [(1, .class_ 2), (0, u "com/example/task_callbacks/taskcallbacks/event/EventStatus"), (2, u "PENDING"), (0, u "Lcom/example/task_callbacks/taskcallbacks/event/EventStatus;"), (2, u "DELIVERED"), (2, u "FAILED"), (2, u "$VALUES"), (0, u "[Lcom/example/task_callbacks/taskcallbacks/event/EventStatus;"), (6, .class_ 25), (1, u "java/lang/Enum")] 64

/-- com/example/task_callbacks/taskcallbacks/event/EventStatus -/
def k12 : Class := { plain "com/example/task_callbacks/taskcallbacks/event/EventStatus" (some 9) with
  accessFlags := 16433
  interfaces := #[]
  cf := some (fileOf pool12 1 #[] #[] 16433 23 #[] #[{ accessFlags := 16409, nameIndex := 5, descriptorIndex := 6, attributes := #[] }, { accessFlags := 16409, nameIndex := 9, descriptorIndex := 6, attributes := #[] }, { accessFlags := 16409, nameIndex := 12, descriptorIndex := 6, attributes := #[] }, { accessFlags := 4122, nameIndex := 15, descriptorIndex := 16, attributes := #[] }])
  fields := #[{ name := "PENDING", type := (.object "com/example/task_callbacks/taskcallbacks/event/EventStatus"), accessFlags := 16409, slot := 0, constantValue := 0 }, { name := "DELIVERED", type := (.object "com/example/task_callbacks/taskcallbacks/event/EventStatus"), accessFlags := 16409, slot := 1, constantValue := 0 }, { name := "FAILED", type := (.object "com/example/task_callbacks/taskcallbacks/event/EventStatus"), accessFlags := 16409, slot := 2, constantValue := 0 }, { name := "$VALUES", type := (.array (.object "com/example/task_callbacks/taskcallbacks/event/EventStatus")), accessFlags := 4122, slot := 3, constantValue := 0 }]
  methods := #[]
  instanceTypes := #[(.object "java/lang/String"), .int, .int]
  staticTypes := #[(.object "com/example/task_callbacks/taskcallbacks/event/EventStatus"), (.object "com/example/task_callbacks/taskcallbacks/event/EventStatus"), (.object "com/example/task_callbacks/taskcallbacks/event/EventStatus"), (.array (.object "com/example/task_callbacks/taskcallbacks/event/EventStatus"))]
  resolved := Array.replicate 90 none
  statics := some 3 }

def pool13 : Array CpInfo := pool [(4, .class_ 6), (1, u "java/lang/Object"), (0, u "<init>"), (0, u "()V"), (5, .class_ 16), (1, u "java/lang/StringLatin1"), (73, u "canEncode"), (14, u "(C)Z"), (15, u "$assertionsDisabled"), (0, u "Z"), (98, .class_ 223), (1, u "java/lang/StringLatin1$LinesSpliterator"), (156, u "toBytes"), (1, u "(C)[B"), (7, .class_ 391), (0, u "java/lang/StringLatin1$CharsSpliterator")] 3

def k13m0 : Method := { name := "<init>", desc := "()V", sig := { parameters := [], returnType := none }, accessFlags := 0, code := none }
def k13c1 : Code := { maxStack := 2, maxLocals := 1, code := jdk_43_method_3_code, exceptionTable := #[], attributes := #[] }
def k13m1 : Method := { name := "canEncode", desc := "(C)Z", sig := { parameters := [.char], returnType := some .boolean }, accessFlags := 9, code := some k13c1 }
def k13c2 : Code := { maxStack := 4, maxLocals := 1, code := jdk_43_method_46_code, exceptionTable := #[], attributes := #[] }
def k13m2 : Method := { name := "toBytes", desc := "(C)[B", sig := { parameters := [.char], returnType := some (.array .byte) }, accessFlags := 9, code := some k13c2 }
/-- java/lang/StringLatin1 -/
def k13 : Class := { plain "java/lang/StringLatin1" (some 0) with
  accessFlags := 48
  interfaces := #[]
  cf := some (fileOf pool13 14 #[.nestMembers #[390, 221]] #[{ accessFlags := 0, nameIndex := 7, descriptorIndex := 8, attributes := #[] }, { accessFlags := 9, nameIndex := 90, descriptorIndex := 105, attributes := #[] }, { accessFlags := 9, nameIndex := 380, descriptorIndex := 382, attributes := #[] }] 48 4 #[] #[{ accessFlags := 4120, nameIndex := 121, descriptorIndex := 122, attributes := #[] }])
  fields := #[{ name := "$assertionsDisabled", type := .boolean, accessFlags := 4120, slot := 0, constantValue := 0 }]
  methods := #[k13m0, k13m1, k13m2]
  instanceTypes := #[]
  staticTypes := #[.boolean]
  resolved := Array.replicate 395 none
  statics := none }

def pool14 : Array CpInfo := pool [(2, .class_ 4), (1, u "java/lang/Object"), (0, u "<init>"), (0, u "()V"), (17, .class_ 26), (1, u "jdk/internal/util/Preconditions"), (28, .class_ 56), (0, u "jdk/internal/util/Preconditions$4"), (57, .class_ 115), (0, u "jdk/internal/util/Preconditions$1"), (7, u "SIOOBE_FORMATTER"), (0, u "Ljava/util/function/BiFunction;"), (0, .class_ 126), (0, u "jdk/internal/util/Preconditions$2"), (3, u "AIOOBE_FORMATTER"), (0, .class_ 132), (0, u "jdk/internal/util/Preconditions$3"), (3, u "IOOBE_FORMATTER")] 57

def k14m0 : Method := { name := "<init>", desc := "()V", sig := { parameters := [], returnType := none }, accessFlags := 1, code := none }
/-- jdk/internal/util/Preconditions -/
def k14 : Class := { plain "jdk/internal/util/Preconditions" (some 0) with
  accessFlags := 33
  interfaces := #[]
  cf := some (fileOf pool14 24 #[.nestMembers #[55, 131, 125, 114]] #[{ accessFlags := 1, nameIndex := 5, descriptorIndex := 6, attributes := #[] }] 33 2 #[] #[{ accessFlags := 25, nameIndex := 123, descriptorIndex := 124, attributes := #[] }, { accessFlags := 25, nameIndex := 130, descriptorIndex := 124, attributes := #[] }, { accessFlags := 25, nameIndex := 136, descriptorIndex := 124, attributes := #[] }])
  fields := #[{ name := "SIOOBE_FORMATTER", type := (.object "java/util/function/BiFunction"), accessFlags := 25, slot := 0, constantValue := 0 }, { name := "AIOOBE_FORMATTER", type := (.object "java/util/function/BiFunction"), accessFlags := 25, slot := 1, constantValue := 0 }, { name := "IOOBE_FORMATTER", type := (.object "java/util/function/BiFunction"), accessFlags := 25, slot := 2, constantValue := 0 }]
  methods := #[k14m0]
  instanceTypes := #[]
  staticTypes := #[(.object "java/util/function/BiFunction"), (.object "java/util/function/BiFunction"), (.object "java/util/function/BiFunction")]
  resolved := Array.replicate 194 none
  statics := some 4 }

def pool15 : Array CpInfo := pool [(9, u "<init>"), (6, .class_ 18), (1, u "java/lang/Object"), (0, u "()V"), (1, .class_ 23), (1, u "jdk/internal/util/ArraysSupport"), (0, u "LOG2_ARRAY_LONG_INDEX_SCALE"), (0, u "I"), (2, u "U"), (0, u "Ljdk/internal/misc/Unsafe;"), (8, u "BIG_ENDIAN"), (0, u "Z"), (8, u "LOG2_BYTE_BIT_SIZE"), (4, u "LOG2_ARRAY_INT_INDEX_SCALE"), (54, u "JLA"), (0, u "Ljdk/internal/access/JavaLangAccess;"), (11, u "LOG2_ARRAY_BOOLEAN_INDEX_SCALE"), (9, u "LOG2_ARRAY_BYTE_INDEX_SCALE"), (5, u "LOG2_ARRAY_CHAR_INDEX_SCALE"), (5, u "LOG2_ARRAY_SHORT_INDEX_SCALE"), (18, u "LOG2_ARRAY_FLOAT_INDEX_SCALE"), (24, u "LOG2_ARRAY_DOUBLE_INDEX_SCALE"), (89, u "T_BOOLEAN"), (2, u "T_CHAR"), (1, u "T_FLOAT"), (1, u "T_DOUBLE"), (1, u "T_BYTE"), (1, u "T_SHORT"), (1, u "T_INT"), (1, u "T_LONG"), (1, u "SOFT_MAX_ARRAY_LENGTH")] 83

def k15m0 : Method := { name := "<init>", desc := "()V", sig := { parameters := [], returnType := none }, accessFlags := 2, code := none }
/-- jdk/internal/util/ArraysSupport -/
def k15 : Class := { plain "jdk/internal/util/ArraysSupport" (some 0) with
  accessFlags := 33
  interfaces := #[]
  cf := some (fileOf pool15 21 #[] #[{ accessFlags := 2, nameIndex := 9, descriptorIndex := 19, attributes := #[] }] 33 16 #[] #[{ accessFlags := 24, nameIndex := 28, descriptorIndex := 29, attributes := #[] }, { accessFlags := 26, nameIndex := 38, descriptorIndex := 39, attributes := #[] }, { accessFlags := 25, nameIndex := 121, descriptorIndex := 25, attributes := #[] }, { accessFlags := 25, nameIndex := 131, descriptorIndex := 25, attributes := #[] }, { accessFlags := 25, nameIndex := 137, descriptorIndex := 25, attributes := #[] }, { accessFlags := 25, nameIndex := 143, descriptorIndex := 25, attributes := #[] }, { accessFlags := 25, nameIndex := 53, descriptorIndex := 25, attributes := #[] }, { accessFlags := 25, nameIndex := 24, descriptorIndex := 25, attributes := #[] }, { accessFlags := 25, nameIndex := 162, descriptorIndex := 25, attributes := #[] }, { accessFlags := 25, nameIndex := 187, descriptorIndex := 25, attributes := #[] }, { accessFlags := 26, nameIndex := 48, descriptorIndex := 25, attributes := #[] }, { accessFlags := 25, nameIndex := 277, descriptorIndex := 25, attributes := #[] }, { accessFlags := 25, nameIndex := 280, descriptorIndex := 25, attributes := #[] }, { accessFlags := 25, nameIndex := 282, descriptorIndex := 25, attributes := #[] }, { accessFlags := 25, nameIndex := 284, descriptorIndex := 25, attributes := #[] }, { accessFlags := 25, nameIndex := 286, descriptorIndex := 25, attributes := #[] }, { accessFlags := 25, nameIndex := 288, descriptorIndex := 25, attributes := #[] }, { accessFlags := 25, nameIndex := 290, descriptorIndex := 25, attributes := #[] }, { accessFlags := 25, nameIndex := 292, descriptorIndex := 25, attributes := #[] }, { accessFlags := 26, nameIndex := 108, descriptorIndex := 109, attributes := #[] }, { accessFlags := 25, nameIndex := 294, descriptorIndex := 25, attributes := #[] }])
  fields := #[{ name := "U", type := (.object "jdk/internal/misc/Unsafe"), accessFlags := 24, slot := 0, constantValue := 0 }, { name := "BIG_ENDIAN", type := .boolean, accessFlags := 26, slot := 1, constantValue := 0 }, { name := "LOG2_ARRAY_BOOLEAN_INDEX_SCALE", type := .int, accessFlags := 25, slot := 2, constantValue := 0 }, { name := "LOG2_ARRAY_BYTE_INDEX_SCALE", type := .int, accessFlags := 25, slot := 3, constantValue := 0 }, { name := "LOG2_ARRAY_CHAR_INDEX_SCALE", type := .int, accessFlags := 25, slot := 4, constantValue := 0 }, { name := "LOG2_ARRAY_SHORT_INDEX_SCALE", type := .int, accessFlags := 25, slot := 5, constantValue := 0 }, { name := "LOG2_ARRAY_INT_INDEX_SCALE", type := .int, accessFlags := 25, slot := 6, constantValue := 0 }, { name := "LOG2_ARRAY_LONG_INDEX_SCALE", type := .int, accessFlags := 25, slot := 7, constantValue := 0 }, { name := "LOG2_ARRAY_FLOAT_INDEX_SCALE", type := .int, accessFlags := 25, slot := 8, constantValue := 0 }, { name := "LOG2_ARRAY_DOUBLE_INDEX_SCALE", type := .int, accessFlags := 25, slot := 9, constantValue := 0 }, { name := "LOG2_BYTE_BIT_SIZE", type := .int, accessFlags := 26, slot := 10, constantValue := 0 }, { name := "T_BOOLEAN", type := .int, accessFlags := 25, slot := 11, constantValue := 0 }, { name := "T_CHAR", type := .int, accessFlags := 25, slot := 12, constantValue := 0 }, { name := "T_FLOAT", type := .int, accessFlags := 25, slot := 13, constantValue := 0 }, { name := "T_DOUBLE", type := .int, accessFlags := 25, slot := 14, constantValue := 0 }, { name := "T_BYTE", type := .int, accessFlags := 25, slot := 15, constantValue := 0 }, { name := "T_SHORT", type := .int, accessFlags := 25, slot := 16, constantValue := 0 }, { name := "T_INT", type := .int, accessFlags := 25, slot := 17, constantValue := 0 }, { name := "T_LONG", type := .int, accessFlags := 25, slot := 18, constantValue := 0 }, { name := "JLA", type := (.object "jdk/internal/access/JavaLangAccess"), accessFlags := 26, slot := 19, constantValue := 0 }, { name := "SOFT_MAX_ARRAY_LENGTH", type := .int, accessFlags := 25, slot := 20, constantValue := 0 }]
  methods := #[k15m0]
  instanceTypes := #[]
  staticTypes := #[(.object "jdk/internal/misc/Unsafe"), .boolean, .int, .int, .int, .int, .int, .int, .int, .int, .int, .int, .int, .int, .int, .int, .int, .int, .int, (.object "jdk/internal/access/JavaLangAccess"), .int]
  resolved := Array.replicate 378 none
  statics := none }

def pool16 : Array CpInfo := pool [(1, u "java/lang/Cloneable"), (0, .class_ 1), (0, u "java/lang/Object"), (0, .class_ 3)] 3

/-- java/lang/Cloneable -/
def k16 : Class := { plain "java/lang/Cloneable" (some 0) with
  accessFlags := 1537
  interfaces := #[]
  cf := some (fileOf pool16 2 #[] #[] 1537 4 #[] #[])
  fields := #[]
  methods := #[]
  instanceTypes := #[]
  staticTypes := #[]
  resolved := Array.replicate 8 none
  statics := none }

/-- the primitive byte -/
def k17 : Class := { plain "byte" none with kind := .primitive 'B', accessFlags := 0x411 }
/-- [B -/
def k18 : Class := { plain "[B" (some 0) with kind := .array 17 .byte, interfaces := #[16, 2], accessFlags := 1041 }

/-- the primitive char -/
def k19 : Class := { plain "char" none with kind := .primitive 'C', accessFlags := 0x411 }
/-- [C -/
def k20 : Class := { plain "[C" (some 0) with kind := .array 19 .char, interfaces := #[16, 2], accessFlags := 1041 }

/-- the primitive int -/
def k21 : Class := { plain "int" none with kind := .primitive 'I', accessFlags := 0x411 }
/-- [I -/
def k22 : Class := { plain "[I" (some 0) with kind := .array 21 .int, interfaces := #[16, 2], accessFlags := 1041 }

def heap : Heap := #[{ cls := 7, slots := #[.long 0, .int 1, .null, .int 0, .null, .int 0, .int 0], vm := .statics 7 },
  { cls := 10, slots := #[.ref 11, .ref 12, .ref 13, .ref 14, .null], vm := .statics 10 },
  { cls := 11, slots := #[.null, .null, .null, .null, .ref 5, .null, .ref 6, .ref 9, .ref 10, .ref 7, .ref 8, .null, .null, .null, .null, .null, .null, .null, .null, .null, .null, .null, .null, .null, .null, .null, .null], vm := .statics 11 },
  { cls := 12, slots := #[.ref 15, .ref 16, .ref 17, .null], vm := .statics 12 },
  { cls := 14, slots := #[.null, .null, .null], vm := .statics 14 },
  { cls := 11, slots := #[.null, .int 0, .int 0, .int 0], vm := .none },
  { cls := 11, slots := #[.null, .int 1, .int 0, .int 0], vm := .none },
  { cls := 11, slots := #[.null, .int 2, .int 0, .int 0], vm := .none },
  { cls := 11, slots := #[.null, .int 3, .int 0, .int 0], vm := .none },
  { cls := 11, slots := #[.null, .int 4, .int 0, .int 0], vm := .none },
  { cls := 11, slots := #[.null, .int 5, .int 0, .int 0], vm := .none },
  { cls := 10, slots := #[.null, .int 0, .int 0, .ref 5, .ref 5, .int 0], vm := .none },
  { cls := 10, slots := #[.null, .int 1, .int 0, .ref 6, .ref 6, .int 0], vm := .none },
  { cls := 10, slots := #[.null, .int 2, .int 0, .ref 9, .ref 7, .int 0], vm := .none },
  { cls := 10, slots := #[.null, .int 3, .int 0, .ref 10, .ref 8, .int 0], vm := .none },
  { cls := 12, slots := #[.null, .int 0, .int 0], vm := .none },
  { cls := 12, slots := #[.null, .int 1, .int 0], vm := .none },
  { cls := 12, slots := #[.null, .int 2, .int 0], vm := .none }]
def classes : Array Class := #[k0, k1, k2, k3, k4, k5, k6, k7, k8, k9, k10, k11, k12, k13, k14, k15, k16, k17, k18, k19, k20, k21, k22]
def interned : List (Array UInt16 × Addr) := []
def slotsUsed : Nat := 103
def theMethod : MethodId := ⟨1, 1⟩
def args0 : Array Value := #[.int 5, .int 6, .int 7, .int 8]
def aboutOver (below : List Frame) : State where
  vm := { classes := classes, interned := interned.toArray }
  heap := heap
  slotsUsed := slotsUsed
  threads := #[{ frames := .invoking theMethod args0 :: below }]
def below0 : List Frame := [.native { method := ⟨0, 0⟩, args := #[] }]
def about1 : State := aboutOver below0
def p0 : Program := .bare "" "" ""
def e0 : Env := launch0.env 0 0 0
theorem w_frames : about1.frames = Frame.invoking theMethod args0 :: below0 := rfl
set_option maxRecDepth 65536 in
theorem w_args : argsFit about1.vm theMethod args0 = true := by decide +kernel
set_option maxRecDepth 65536 in
theorem w_heap : heapFits about1 = true := by decide +kernel
set_option maxRecDepth 65536 in
theorem w_runnable : about1.curStatus? = some .runnable := by decide +kernel
set_option maxRecDepth 65536 in
theorem w_alone : about1.alone = true := by decide +kernel
set_option maxRecDepth 65536 in
theorem w_named : about1.methodNamed? x = some theMethod := by decide +kernel
set_option maxRecDepth 65536 in
theorem w_hears : about1.hears theMethod below0 = true := by decide +kernel
set_option maxRecDepth 65536 in
theorem w_ripe : about1.ripe theMethod args0 below0 = true := by decide +kernel
theorem w_running : about1.status = .running := rfl
set_option maxRecDepth 65536 in
theorem w_room : about1.hasRoom e0.platform room_1 = true :=
  launch0.hasRoom_least _ room_1 (by decide +kernel) (by decide +kernel) (by decide +kernel) (by decide +kernel) (by decide +kernel) (by decide +kernel)
theorem allAtoms_all (ts : List Jvm.Cond) (a : Array Jvm.Value) (st : Jvm.State) : (allAtoms ts).before a st = ts.all (fun c => c.before a st) := by
  induction ts with
  | nil => rfl
  | cons c t ih =>
    show (Jvm.Cond.and c (allAtoms t)).before a st = _
    rw [Jvm.Cond.before_and, ih, List.all_cons]
def words1 : List Jvm.Cond := Jvm.Cond.code x code maxLocals ret :: tables_1
/-- a 'code' word, met by the world's own term for the bytes: nothing is compared byte by byte -/
theorem code_word {y : MethodName} {bytes : ByteArray} {mx : Nat} {rt : Option FieldType} {a : Array Value} {s : State} {m : MethodId} {meth : Method} {c : Code} (h1 : s.methodNamed? y = some m) (h2 : s.vm.method? m = some meth) (h3 : meth.code = some c) (h4 : c.code = bytes)
    (h5 : (c.maxLocals == mx && c.exceptionTable.isEmpty && decide (c.maxStack ≤ mostOperands) && decide (meth.sig.returnType = rt) && !meth.locks && decide (parseMethodDescriptor y.desc = some meth.sig)) = true) : (Jvm.Cond.code y bytes mx rt).before a s = true := by
  simp only [Bool.and_eq_true, beq_iff_eq, Bool.not_eq_true', decide_eq_true_eq] at h5
  obtain ⟨⟨⟨⟨⟨g1, g2⟩, g3⟩, g4⟩, g5⟩, g6⟩ := h5
  simp [Cond.before, Cond.holds, Cond.value, h1, h2, h3, h4, g1, g2, g3, g4, g5, g6]
def isCode : Jvm.Cond → Bool
  | .code _ _ _ _ => true
  | _ => false
theorem all_split {L : List Jvm.Cond} {P : Jvm.Cond → Bool} (h1 : L.all (fun c => isCode c || P c) = true) (h2 : ∀ c ∈ L.filter isCode, P c = true) : L.all P = true := by
  refine List.all_eq_true.mpr fun c hc => ?_
  have h := List.all_eq_true.mp h1 c hc
  rcases Bool.eq_false_or_eq_true (isCode c) with hi | hi
  · exact h2 c (List.mem_filter.mpr ⟨hc, hi⟩)
  · simpa [hi] using h
set_option maxRecDepth 65536 in
theorem w_c0 : (Jvm.Cond.code x code maxLocals ret).before args0 about1 = true := code_word (m := ⟨1, 1⟩) (meth := k1m1) (c := k1c1) (by decide +kernel) rfl rfl rfl (by decide +kernel)
set_option maxRecDepth 65536 in
theorem w_c1 : (Jvm.Cond.code ({ cls := "java/lang/String", name := "<init>", desc := "([C)V" } : Jvm.MethodName) jdk_42_method_3_code (2 : Nat) (Option.none : Option Jvm.ClassFile.FieldType)).before args0 about1 = true := code_word (m := ⟨7, 1⟩) (meth := k7m1) (c := k7c1) (by decide +kernel) rfl rfl rfl (by decide +kernel)
set_option maxRecDepth 65536 in
theorem w_c2 : (Jvm.Cond.code ({ cls := "java/lang/String", name := "<init>", desc := "([CIILjava/lang/Void;)V" } : Jvm.MethodName) jdk_42_method_149_code (6 : Nat) (Option.none : Option Jvm.ClassFile.FieldType)).before args0 about1 = true := code_word (m := ⟨7, 3⟩) (meth := k7m3) (c := k7c3) (by decide +kernel) rfl rfl rfl (by decide +kernel)
set_option maxRecDepth 65536 in
theorem w_c3 : (Jvm.Cond.code ({ cls := "java/lang/Object", name := "<init>", desc := "()V" } : Jvm.MethodName) object_method_1_code (1 : Nat) (Option.none : Option Jvm.ClassFile.FieldType)).before args0 about1 = true := code_word (m := ⟨0, 0⟩) (meth := k0m0) (c := k0c0) (by decide +kernel) rfl rfl rfl (by decide +kernel)
set_option maxRecDepth 65536 in
theorem w_c4 : (Jvm.Cond.code ({ cls := "java/lang/StringUTF16", name := "compress", desc := "([CII)[B" } : Jvm.MethodName) jdk_52_method_16_code (6 : Nat) (Option.some (Jvm.ClassFile.FieldType.array Jvm.ClassFile.FieldType.byte))).before args0 about1 = true := code_word (m := ⟨8, 2⟩) (meth := k8m2) (c := k8c2) (by decide +kernel) rfl rfl rfl (by decide +kernel)
set_option maxRecDepth 65536 in
theorem w_c5 : (Jvm.Cond.code ({ cls := "java/lang/StringUTF16", name := "compress", desc := "([CI[BII)I" } : Jvm.MethodName) jdk_52_method_21_code (7 : Nat) (Option.some Jvm.ClassFile.FieldType.int)).before args0 about1 = true := code_word (m := ⟨8, 3⟩) (meth := k8m3) (c := k8c3) (by decide +kernel) rfl rfl rfl (by decide +kernel)
set_option maxRecDepth 65536 in
theorem w_c6 : (Jvm.Cond.code ({ cls := "java/lang/StringUTF16", name := "coderFromArrayLen", desc := "([BI)B" } : Jvm.MethodName) jdk_52_method_15_code (2 : Nat) (Option.some Jvm.ClassFile.FieldType.byte)).before args0 about1 = true := code_word (m := ⟨8, 1⟩) (meth := k8m1) (c := k8c1) (by decide +kernel) rfl rfl rfl (by decide +kernel)
set_option maxRecDepth 65536 in
theorem w_c7 : (Jvm.Cond.code ({ cls := "com/example/task_callbacks/taskcallbacks/event/Listing", name := "of", desc := "(Lcom/example/task_callbacks/taskcallbacks/event/EventStatus;Ljava/lang/String;)Lcom/example/task_callbacks/taskcallbacks/event/Listing;" } : Jvm.MethodName) prog_18_method_4_code (2 : Nat) (Option.some (Jvm.ClassFile.FieldType.object "com/example/task_callbacks/taskcallbacks/event/Listing"))).before args0 about1 = true := code_word (m := ⟨10, 0⟩) (meth := k10m0) (c := k10c0) (by decide +kernel) rfl rfl rfl (by decide +kernel)
set_option maxRecDepth 65536 in
theorem w_c8 : (Jvm.Cond.code ({ cls := "com/example/task_callbacks/taskcallbacks/event/Listing", name := "table", desc := "(Lcom/example/task_callbacks/taskcallbacks/event/EventStatus;)Lcom/example/task_callbacks/taskcallbacks/store/Table;" } : Jvm.MethodName) prog_18_method_5_code (2 : Nat) (Option.some (Jvm.ClassFile.FieldType.object "com/example/task_callbacks/taskcallbacks/store/Table"))).before args0 about1 = true := code_word (m := ⟨10, 1⟩) (meth := k10m1) (c := k10c1) (by decide +kernel) rfl rfl rfl (by decide +kernel)
set_option maxRecDepth 65536 in
theorem w_c9 : (Jvm.Cond.code ({ cls := "java/lang/String", name := "valueOf", desc := "(C)Ljava/lang/String;" } : Jvm.MethodName) jdk_42_method_139_code (1 : Nat) (Option.some (Jvm.ClassFile.FieldType.object "java/lang/String"))).before args0 about1 = true := code_word (m := ⟨7, 2⟩) (meth := k7m2) (c := k7c2) (by decide +kernel) rfl rfl rfl (by decide +kernel)
set_option maxRecDepth 65536 in
theorem w_c10 : (Jvm.Cond.code ({ cls := "java/lang/StringLatin1", name := "canEncode", desc := "(C)Z" } : Jvm.MethodName) jdk_43_method_3_code (1 : Nat) (Option.some Jvm.ClassFile.FieldType.boolean)).before args0 about1 = true := code_word (m := ⟨13, 1⟩) (meth := k13m1) (c := k13c1) (by decide +kernel) rfl rfl rfl (by decide +kernel)
set_option maxRecDepth 65536 in
theorem w_c11 : (Jvm.Cond.code ({ cls := "java/lang/StringLatin1", name := "toBytes", desc := "(C)[B" } : Jvm.MethodName) jdk_43_method_46_code (1 : Nat) (Option.some (Jvm.ClassFile.FieldType.array Jvm.ClassFile.FieldType.byte))).before args0 about1 = true := code_word (m := ⟨13, 2⟩) (meth := k13m2) (c := k13c2) (by decide +kernel) rfl rfl rfl (by decide +kernel)
set_option maxRecDepth 65536 in
theorem w_c12 : (Jvm.Cond.code ({ cls := "java/lang/String", name := "<init>", desc := "([BB)V" } : Jvm.MethodName) jdk_42_method_151_code (3 : Nat) (Option.none : Option Jvm.ClassFile.FieldType)).before args0 about1 = true := code_word (m := ⟨7, 4⟩) (meth := k7m4) (c := k7c4) (by decide +kernel) rfl rfl rfl (by decide +kernel)
def codes1 : List Jvm.Cond := [Jvm.Cond.code x code maxLocals ret, Jvm.Cond.code ({ cls := "java/lang/String", name := "<init>", desc := "([C)V" } : Jvm.MethodName) jdk_42_method_3_code (2 : Nat) (Option.none : Option Jvm.ClassFile.FieldType), Jvm.Cond.code ({ cls := "java/lang/String", name := "<init>", desc := "([CIILjava/lang/Void;)V" } : Jvm.MethodName) jdk_42_method_149_code (6 : Nat) (Option.none : Option Jvm.ClassFile.FieldType), Jvm.Cond.code ({ cls := "java/lang/Object", name := "<init>", desc := "()V" } : Jvm.MethodName) object_method_1_code (1 : Nat) (Option.none : Option Jvm.ClassFile.FieldType), Jvm.Cond.code ({ cls := "java/lang/StringUTF16", name := "compress", desc := "([CII)[B" } : Jvm.MethodName) jdk_52_method_16_code (6 : Nat) (Option.some (Jvm.ClassFile.FieldType.array Jvm.ClassFile.FieldType.byte)), Jvm.Cond.code ({ cls := "java/lang/StringUTF16", name := "compress", desc := "([CI[BII)I" } : Jvm.MethodName) jdk_52_method_21_code (7 : Nat) (Option.some Jvm.ClassFile.FieldType.int), Jvm.Cond.code ({ cls := "java/lang/StringUTF16", name := "coderFromArrayLen", desc := "([BI)B" } : Jvm.MethodName) jdk_52_method_15_code (2 : Nat) (Option.some Jvm.ClassFile.FieldType.byte), Jvm.Cond.code ({ cls := "com/example/task_callbacks/taskcallbacks/event/Listing", name := "of", desc := "(Lcom/example/task_callbacks/taskcallbacks/event/EventStatus;Ljava/lang/String;)Lcom/example/task_callbacks/taskcallbacks/event/Listing;" } : Jvm.MethodName) prog_18_method_4_code (2 : Nat) (Option.some (Jvm.ClassFile.FieldType.object "com/example/task_callbacks/taskcallbacks/event/Listing")), Jvm.Cond.code ({ cls := "com/example/task_callbacks/taskcallbacks/event/Listing", name := "table", desc := "(Lcom/example/task_callbacks/taskcallbacks/event/EventStatus;)Lcom/example/task_callbacks/taskcallbacks/store/Table;" } : Jvm.MethodName) prog_18_method_5_code (2 : Nat) (Option.some (Jvm.ClassFile.FieldType.object "com/example/task_callbacks/taskcallbacks/store/Table")), Jvm.Cond.code ({ cls := "java/lang/String", name := "valueOf", desc := "(C)Ljava/lang/String;" } : Jvm.MethodName) jdk_42_method_139_code (1 : Nat) (Option.some (Jvm.ClassFile.FieldType.object "java/lang/String")), Jvm.Cond.code ({ cls := "java/lang/StringLatin1", name := "canEncode", desc := "(C)Z" } : Jvm.MethodName) jdk_43_method_3_code (1 : Nat) (Option.some Jvm.ClassFile.FieldType.boolean), Jvm.Cond.code ({ cls := "java/lang/StringLatin1", name := "toBytes", desc := "(C)[B" } : Jvm.MethodName) jdk_43_method_46_code (1 : Nat) (Option.some (Jvm.ClassFile.FieldType.array Jvm.ClassFile.FieldType.byte)), Jvm.Cond.code ({ cls := "java/lang/String", name := "<init>", desc := "([BB)V" } : Jvm.MethodName) jdk_42_method_151_code (3 : Nat) (Option.none : Option Jvm.ClassFile.FieldType)]
set_option maxRecDepth 65536 in
theorem codes_eq : words1.filter isCode = codes1 := rfl
theorem w_codes : ∀ c ∈ words1.filter isCode, c.before args0 about1 = true := by
  rw [codes_eq]
  intro c hc
  simp only [codes1, List.mem_cons, List.not_mem_nil, or_false] at hc
  rcases hc with rfl | rfl | rfl | rfl | rfl | rfl | rfl | rfl | rfl | rfl | rfl | rfl | rfl
  · exact w_c0
  · exact w_c1
  · exact w_c2
  · exact w_c3
  · exact w_c4
  · exact w_c5
  · exact w_c6
  · exact w_c7
  · exact w_c8
  · exact w_c9
  · exact w_c10
  · exact w_c11
  · exact w_c12
set_option maxRecDepth 65536 in
theorem w_t1 : (words1.take 24).all (fun c => isCode c || c.before args0 about1) = true := by decide +kernel
set_option maxRecDepth 65536 in
theorem w_t2 : ((words1.drop 24).take 24).all (fun c => isCode c || c.before args0 about1) = true := by decide +kernel
set_option maxRecDepth 65536 in
theorem w_t3 : (((words1.drop 24).drop 24).take 24).all (fun c => isCode c || c.before args0 about1) = true := by decide +kernel
set_option maxRecDepth 65536 in
theorem w_t4 : (((words1.drop 24).drop 24).drop 24).all (fun c => isCode c || c.before args0 about1) = true := by decide +kernel
theorem w_tables : (allAtoms (Jvm.Cond.code x code maxLocals ret :: tables_1)).before args0 about1 = true := by
  rw [allAtoms_all]
  show words1.all (fun c => c.before args0 about1) = true
  refine all_split ?_ w_codes
  rw [← List.take_append_drop 24 words1, List.all_append, w_t1, ← List.take_append_drop 24 (words1.drop 24), List.all_append, w_t2, ← List.take_append_drop 24 ((words1.drop 24).drop 24), List.all_append, w_t3, w_t4]
  rfl
set_option maxRecDepth 65536 in
theorem w_rest : rest_1_c.before args0 about1 = true := by decide +kernel
set_option maxRecDepth 65536 in
theorem w_case : (Jvm.Cond.and given_1 narrow_1).before args0 about1 = true := by decide +kernel
theorem w_applies : (headSpec (Jvm.Cond.code x code maxLocals ret :: tables_1) room_1).applies x e0.platform about1 = true :=
  (Spec.applies_iff w_frames).mpr ⟨w_running, w_runnable, w_alone, w_named, w_hears, w_ripe, w_room, w_tables⟩
theorem atStart : AtStart classFile x code maxLocals ret World_1 tables_1 room_1 Calls_1 rest_1 Pre_1 launch0 p0 e0 about1 theMethod args0 below0 :=
  ⟨lists_1, trivial, launch0.admits_env _ _ _, launch0.least_env, fairChoices_fair.cas, fairChoices_fair.clock, w_frames, w_args, w_heap, w_applies, trivial, w_rest, w_case⟩
end start1
theorem witness_1 : WitnessClaimed_1 := ⟨start1.p0, start1.e0, start1.about1, start1.theMethod, start1.args0, start1.below0, start1.atStart⟩
end Jvm.Pilot.@@N@@
