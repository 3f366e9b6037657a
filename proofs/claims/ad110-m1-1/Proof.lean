import JvmDerived
import JvmDerived.Pilot.@@N@@Statement
import JvmDerived.Pilot.@@N@@Code
set_option linter.unusedVariables false
set_option linter.unusedSimpArgs false
/- laws to paste: Road.lenW, Road.chN, Road.empW, Road.codOf (cut by pick.py; bodies as the Statement names them) -/
namespace Jvm.Pilot.@@N@@
namespace StrChars
open Jvm Sem ClassFile Op Lib Jvm.Stand Jvm.Free.XT Jvm.Free.ALB Jvm.Free.JM Jvm.Free
open Jvm.Lib.Cold (StaticIs)
/-- a char array whose places are chars -/
def Ch (a : Addr) (A : Cell) (U : State) : Prop := Arr .char a A U ∧ Typed .char A
theorem Ch.mv {a : Addr} {A : Cell} {U U' : State} (h : Ch a A U) (hal : U.vm.Alike U'.vm) (hh : U'.heap = U.heap) : Ch a A U' := ⟨h.1.mv hal hh, h.2⟩
theorem Ch.keep {a : Addr} {A : Cell} {U U' : State} (h : Ch a A U) (hal : U.vm.Alike U'.vm) (hk : U'.heap[a]? = some A) : Ch a A U' := ⟨h.1.keep hal hk, h.2⟩
/-- what place i of a char[]'s cell holds -/
def cv (A : Cell) (i : Nat) : Int32 := match A.slots[i]? with | some (.int x) => x | _ => 0
theorem Ch.get {a : Addr} {A : Cell} {U : State} (h : Ch a A U) {i : Nat} (hi : i < A.slots.size) : A.slots[i]? = some (.int (cv A i)) := by
  have e := Array.getElem?_eq_getElem hi
  have f := h.2 i _ e
  unfold cv; rw [e]
  generalize A.slots[i] = v at f
  cases v <;> simp [fits] at f ⊢
/-- the byte that i2b leaves of a char -/
def lo8 (x : Int32) : Int32 := x.toInt8.toInt32
theorem fits_lo8 (y : Int32) : fits .byte (.int (lo8 y)) = true := by
  have h1 := y.toInt8.le_toInt
  have h2 := y.toInt8.toInt_lt
  simp only [lo8, fits, Bool.and_eq_true, decide_eq_true_eq, Int32.le_iff_toInt_le, Int8.toInt_toInt32, show (-128 : Int32).toInt = -128 from by decide, show (127 : Int32).toInt = 127 from by decide]
  omega
/-- A' is A but that each place j of lo .. hi - 1 holds f j -/
def Laid (A A' : Cell) (lo hi : Nat) (f : Nat → Value) : Prop := A'.cls = A.cls ∧ A'.vm = A.vm ∧ A'.slots.size = A.slots.size ∧ ∀ i, A'.slots[i]? = if lo ≤ i ∧ i < hi then some (f i) else A.slots[i]?
theorem Laid.zero (A : Cell) (lo : Nat) (f : Nat → Value) : Laid A A lo (lo + 0) f := ⟨rfl, rfl, rfl, fun i => by rw [if_neg (by omega)]⟩
theorem Laid.step {A Ak : Cell} {lo k : Nat} {f : Nat → Value} {v : Value} (h : Laid A Ak lo k f) (hlo : lo ≤ k) (hk : k < Ak.slots.size) (hv : v = f k) : Laid A (Ak.setSlot k v) lo (k + 1) f := by
  refine ⟨h.1, h.2.1, by simpa [Cell.setSlot] using h.2.2.1, fun i => ?_⟩
  by_cases e : k = i
  · subst e; rw [Cell.slots_setSlot_self v hk, if_pos (by omega), hv]
  · rw [Cell.slots_setSlot_ne v e, h.2.2.2 i]
    by_cases q : lo ≤ i ∧ i < k
    · rw [if_pos q, if_pos (by omega)]
    · rw [if_neg q, if_neg (by omega)]
def U16 : String := "java/lang/StringUTF16"
namespace Cmp5
def yN : MethodName := ⟨"java/lang/StringUTF16", "compress", "([CI[BII)I"⟩
abbrev yB : ByteArray := jdk_52_method_21_code
theorem d0 : decode yB 0 = .ok (.iconst 0, 1) := by decide +kernel
theorem d1 : decode yB 1 = .ok (.istore 5, 2) := by decide +kernel
theorem d3 : decode yB 3 = .ok (.iload 5, 2) := by decide +kernel
theorem d5 : decode yB 5 = .ok (.iload 4, 2) := by decide +kernel
theorem d7 : decode yB 7 = .ok (.if_icmp (.ge) 37, 3) := by decide +kernel
theorem d10 : decode yB 10 = .ok (.aload_n 0, 1) := by decide +kernel
theorem d11 : decode yB 11 = .ok (.iload_n 1, 1) := by decide +kernel
theorem d12 : decode yB 12 = .ok (.caload, 1) := by decide +kernel
theorem d13 : decode yB 13 = .ok (.istore 6, 2) := by decide +kernel
theorem d15 : decode yB 15 = .ok (.iload 6, 2) := by decide +kernel
theorem d17 : decode yB 17 = .ok (.sipush 255, 3) := by decide +kernel
theorem d20 : decode yB 20 = .ok (.if_icmp (.le) 6, 3) := by decide +kernel
theorem d26 : decode yB 26 = .ok (.aload_n 2, 1) := by decide +kernel
theorem d27 : decode yB 27 = .ok (.iload_n 3, 1) := by decide +kernel
theorem d28 : decode yB 28 = .ok (.iload 6, 2) := by decide +kernel
theorem d30 : decode yB 30 = .ok (.i2b, 1) := by decide +kernel
theorem d31 : decode yB 31 = .ok (.bastore, 1) := by decide +kernel
theorem d32 : decode yB 32 = .ok (.iinc 1 1, 3) := by decide +kernel
theorem d35 : decode yB 35 = .ok (.iinc 3 1, 3) := by decide +kernel
theorem d38 : decode yB 38 = .ok (.iinc 5 1, 3) := by decide +kernel
theorem d41 : decode yB 41 = .ok (.goto (-38), 3) := by decide +kernel
theorem d44 : decode yB 44 = .ok (.iload 4, 2) := by decide +kernel
theorem d46 : decode yB 46 = .ok (.ireturn, 1) := by decide +kernel
def site : List Cond := []
def tab : Cond := tabOf yN yB 7 (some .int) site
def P (b : Addr) (A : Cell) (d : Addr) (B : Cell) (o q len : Nat) (args : Array Value) (s : State) : Prop := args = #[.ref b, .int (Int32.ofNat o), .ref d, .int (Int32.ofNat q), .int (Int32.ofNat len)] ∧ Ch b A s ∧ Arr .byte d B s ∧ b ≠ d ∧ o + len ≤ A.slots.size ∧ q + len ≤ B.slots.size ∧ ∀ i, i < len → ¬ 255 < cv A (o + i)
def E (b : Addr) (A : Cell) (d : Addr) (B : Cell) (o q len : Nat) (r : Option Value) (s u : State) : Prop := r = some (.int (Int32.ofNat len)) ∧ ∃ B', Put d B' s u ∧ Laid B B' q (q + len) (fun j => Value.int (lo8 (cv A (o + (j - q)))))
/-- no char of the range above 255: len; the places written hold each char's low byte -/
theorem law (l : Launch) (b : Addr) (A : Cell) (d : Addr) (B : Cell) (o q len : Nat) : Law l yN 5 5 0 0 yB 7 (some .int) site (P b A d B o q len) (E b A d B o q len) (copyLocs d q len) 0 0 := by
  refine Law.of_walk (plainFor_of_name (by decide +kernel)) (by decide +kernel) (by decide +kernel) (by decide) (fun _ _ h => by rw [h.1]; rfl) (fun _ U U' hal hh h => ⟨h.1, h.2.1.mv hal hh, h.2.2.1.mv hal hh, h.2.2.2⟩) (fun r U U' V V' h1 hal h2 h => ⟨h.1, h.2.elim fun B' q => ⟨B', q.1.mv h1 h2, q.2⟩⟩) ?_
  intro p e s m args below meth c s₁ X0 hexec hbytes hml hret hlk hnm hown hh0 W hP
  obtain ⟨rfl, hA, hB, hne, l1, l2, hp⟩ := hP
  have c1 : Steps p.tables e below (s₁.setTop (entryFrame m #[.ref b, .int (Int32.ofNat o), .ref d, .int (Int32.ofNat q), .int (Int32.ofNat len)] 7)) (s₁.setTop (mkF m 0 #[.val (.ref b), .val (.int (Int32.ofNat o)), .val (.ref d), .val (.int (Int32.ofNat q)), .val (.int (Int32.ofNat len)), .unset, .unset] [])) := entry rfl
  have hA0 := hA.1.mv X0.warmed.alike hh0
  have hB0 := hB.mv X0.warmed.alike hh0
  have a31 := hA.1.2.2.2
  have c2 : Steps p.tables e below (s₁.setTop (entryFrame m #[.ref b, .int (Int32.ofNat o), .ref d, .int (Int32.ofNat q), .int (Int32.ofNat len)] 7)) (s₁.setTop (mkF m 3 #[.val (.ref b), .val (.int (Int32.ofNat o)), .val (.ref d), .val (.int (Int32.ofNat q)), .val (.int (Int32.ofNat len)), .val (.int 0), .unset] [])) := c1.trans (by
    refine iconstV X0.here hexec rfl 0 (hb hbytes d0) (by decide) ?_
    refine XS.istore X0.here hexec rfl (hb hbytes d1) rfl rfl ?_
    exact Steps.refl _)
  have loop : ∀ (r i : Nat), i + r = len → ∀ (z : Slot), (z = .unset ∨ ∃ w, z = .val w ∧ w.category = 1) → ∀ (Tl : State) (Bk : Cell), Stand p l e { frames := 0, locals := 0, cells := 0, slots := 0 } s m #[.ref b, .int (Int32.ofNat o), .ref d, .int (Int32.ofNat q), .int (Int32.ofNat len)] below meth c Tl ([] ++ copyLocs d q i) 0 0 → Put d Bk s₁ Tl → Laid B Bk q (q + i) (fun j => Value.int (lo8 (cv A (o + (j - q))))) →
      Steps p.tables e below (s₁.setTop (entryFrame m #[.ref b, .int (Int32.ofNat o), .ref d, .int (Int32.ofNat q), .int (Int32.ofNat len)] 7)) (Tl.setTop (mkF m 3 #[.val (.ref b), .val (.int (Int32.ofNat (o + i))), .val (.ref d), .val (.int (Int32.ofNat (q + i))), .val (.int (Int32.ofNat len)), .val (.int (Int32.ofNat i)), z] [])) → ∃ (T' : State) (B' : Cell) (z' : Slot), Stand p l e { frames := 0, locals := 0, cells := 0, slots := 0 } s m #[.ref b, .int (Int32.ofNat o), .ref d, .int (Int32.ofNat q), .int (Int32.ofNat len)] below meth c T' ([] ++ copyLocs d q len) 0 0 ∧ Put d B' s₁ T' ∧ Laid B B' q (q + len) (fun j => Value.int (lo8 (cv A (o + (j - q))))) ∧
      Steps p.tables e below (s₁.setTop (entryFrame m #[.ref b, .int (Int32.ofNat o), .ref d, .int (Int32.ofNat q), .int (Int32.ofNat len)] 7)) (T'.setTop (mkF m 3 #[.val (.ref b), .val (.int (Int32.ofNat (o + len))), .val (.ref d), .val (.int (Int32.ofNat (q + len))), .val (.int (Int32.ofNat len)), .val (.int (Int32.ofNat len)), z'] [])) := by
    intro r
    induction r with
    | zero =>
      intro i hi z hz Tl Bk Xl pl fl cl
      have hil : i = len := by omega
      rw [hil] at Xl fl cl
      exact ⟨Tl, Bk, z, Xl, pl, fl, cl⟩
    | succ r ih =>
      intro i hi z hz Tl Bk Xl pl fl cl
      have all := X0.warmed.alike.symm.trans Xl.warmed.alike
      have hAl := hA0.keep all (pl.other hne hA0.1)
      have hBk := hB0.like all pl.1 fl.1 fl.2.1 fl.2.2.1
      have hlt : q + i < Bk.slots.size := by rw [fl.2.2.1]; omega
      have c3 : Steps p.tables e below (s₁.setTop (entryFrame m #[.ref b, .int (Int32.ofNat o), .ref d, .int (Int32.ofNat q), .int (Int32.ofNat len)] 7)) (Tl.setTop (mkF m 12 #[.val (.ref b), .val (.int (Int32.ofNat (o + i))), .val (.ref d), .val (.int (Int32.ofNat (q + i))), .val (.int (Int32.ofNat len)), .val (.int (Int32.ofNat i)), z] [.int (Int32.ofNat (o + i)), .ref b])) := cl.trans (by
        refine XS.iload Xl.here hexec rfl (hb hbytes d3) rfl ?_
        refine XS.iload Xl.here hexec rfl (hb hbytes d5) rfl ?_
        refine XS.icmpNo Xl.here hexec rfl (hb hbytes d7) rfl (ii_ge_f (lt32 (by omega) (by omega))) ?_
        refine XS.aloadN Xl.here hexec rfl (hb hbytes d10) rfl rfl ?_
        refine XS.iloadN Xl.here hexec rfl (hb hbytes d11) rfl ?_
        exact Steps.refl _)
      have c4 : Steps p.tables e below (s₁.setTop (entryFrame m #[.ref b, .int (Int32.ofNat o), .ref d, .int (Int32.ofNat q), .int (Int32.ofNat len)] 7)) (Tl.setTop (mkF m 13 #[.val (.ref b), .val (.int (Int32.ofNat (o + i))), .val (.ref d), .val (.int (Int32.ofNat (q + i))), .val (.int (Int32.ofNat len)), .val (.int (Int32.ofNat i)), z] [.int (cv A (o + i))])) := c3.trans (by
        refine Xl.aget hexec hAl rfl (hA.get (i := o + i) (by omega)) rfl rfl (hb hbytes d12) ?_
        exact Steps.refl _)
      have c5 : Steps p.tables e below (s₁.setTop (entryFrame m #[.ref b, .int (Int32.ofNat o), .ref d, .int (Int32.ofNat q), .int (Int32.ofNat len)] 7)) (Tl.setTop (mkF m 15 #[.val (.ref b), .val (.int (Int32.ofNat (o + i))), .val (.ref d), .val (.int (Int32.ofNat (q + i))), .val (.int (Int32.ofNat len)), .val (.int (Int32.ofNat i)), .val (.int (cv A (o + i)))] [])) := c4.trans (by
        refine XS.istoreS Xl.here hexec rfl (hb hbytes d13) rfl rfl hz ?_
        exact Steps.refl _)
      have c6 : Steps p.tables e below (s₁.setTop (entryFrame m #[.ref b, .int (Int32.ofNat o), .ref d, .int (Int32.ofNat q), .int (Int32.ofNat len)] 7)) (Tl.setTop (mkF m 31 #[.val (.ref b), .val (.int (Int32.ofNat (o + i))), .val (.ref d), .val (.int (Int32.ofNat (q + i))), .val (.int (Int32.ofNat len)), .val (.int (Int32.ofNat i)), .val (.int (cv A (o + i)))] [.int (lo8 (cv A (o + i))), .int (Int32.ofNat (q + i)), .ref d])) := c5.trans (by
        refine XS.iload Xl.here hexec rfl (hb hbytes d15) rfl ?_
        refine sipushV Xl.here hexec rfl 255 (hb hbytes d17) (by decide) ?_
        refine XS.icmpYes Xl.here hexec rfl (pc0 := 20) rfl (hb hbytes d20) rfl (ii_le_t (hp i (by omega))) (by decide) rfl ?_
        refine XS.aloadN Xl.here hexec rfl (hb hbytes d26) rfl rfl ?_
        refine XS.iloadN Xl.here hexec rfl (hb hbytes d27) rfl ?_
        refine XS.iload Xl.here hexec rfl (hb hbytes d28) rfl ?_
        refine i2b Xl.here hexec rfl (hb hbytes d30) rfl ?_
        exact Steps.refl _)
      obtain ⟨T7, X7, p7, st7⟩ := Xl.aput hexec hBk rfl hlt rfl (fits_lo8 (cv A (o + i))) (g := (mkF m 31 #[.val (.ref b), .val (.int (Int32.ofNat (o + i))), .val (.ref d), .val (.int (Int32.ofNat (q + i))), .val (.int (Int32.ofNat len)), .val (.int (Int32.ofNat i)), .val (.int (cv A (o + i)))] [.int (lo8 (cv A (o + i))), .int (Int32.ofNat (q + i)), .ref d])) rfl (rest := []) rfl (hb hbytes d31)
      have c8 : Steps p.tables e below (s₁.setTop (entryFrame m #[.ref b, .int (Int32.ofNat o), .ref d, .int (Int32.ofNat q), .int (Int32.ofNat len)] 7)) (T7.setTop (mkF m 32 #[.val (.ref b), .val (.int (Int32.ofNat (o + i))), .val (.ref d), .val (.int (Int32.ofNat (q + i))), .val (.int (Int32.ofNat len)), .val (.int (Int32.ofNat i)), .val (.int (cv A (o + i)))] [])) := c6.trans (st7 _ (Steps.refl _))
      have c9 : Steps p.tables e below (s₁.setTop (entryFrame m #[.ref b, .int (Int32.ofNat o), .ref d, .int (Int32.ofNat q), .int (Int32.ofNat len)] 7)) (T7.setTop (mkF m 3 #[.val (.ref b), .val (.int (Int32.ofNat (o + i) + 1)), .val (.ref d), .val (.int (Int32.ofNat (q + i) + 1)), .val (.int (Int32.ofNat len)), .val (.int (Int32.ofNat i + 1)), .val (.int (cv A (o + i)))] [])) := c8.trans (by
        refine iincV X7.here hexec rfl 1 (hb hbytes d32) (by decide) rfl rfl ?_
        refine iincV X7.here hexec rfl 1 (hb hbytes d35) (by decide) rfl rfl ?_
        refine iincV X7.here hexec rfl 1 (hb hbytes d38) (by decide) rfl rfl ?_
        refine XS.goto X7.here hexec rfl (pc0 := 41) rfl (hb hbytes d41) (by decide) rfl ?_
        exact Steps.refl _)
      have c10 : Steps p.tables e below (s₁.setTop (entryFrame m #[.ref b, .int (Int32.ofNat o), .ref d, .int (Int32.ofNat q), .int (Int32.ofNat len)] 7)) (T7.setTop (mkF m 3 #[.val (.ref b), .val (.int (Int32.ofNat (o + (i + 1)))), .val (.ref d), .val (.int (Int32.ofNat (q + (i + 1)))), .val (.int (Int32.ofNat len)), .val (.int (Int32.ofNat (i + 1))), .val (.int (cv A (o + i)))] [])) := by
        have := c9
        rw [succ32, succ32, succ32] at this
        exact this
      exact ih (i + 1) (by omega) _ (Or.inr ⟨_, rfl, rfl⟩) T7 _ (by rw [copyLocs_step, ← List.append_assoc]; exact X7) (pl.trans p7) (fl.step (by omega) hlt (by simp)) c10
  obtain ⟨T9, B9, z9, X9, p9, f9, g9⟩ := loop len 0 (by omega) .unset (Or.inl rfl) s₁ B (by simpa [copyLocs] using X0) ⟨hB0.1, fun _ _ => rfl, rfl⟩ (Laid.zero _ _ _) c2
  have c11 : Steps p.tables e below (s₁.setTop (entryFrame m #[.ref b, .int (Int32.ofNat o), .ref d, .int (Int32.ofNat q), .int (Int32.ofNat len)] 7)) (T9.setTop (mkF m 46 #[.val (.ref b), .val (.int (Int32.ofNat (o + len))), .val (.ref d), .val (.int (Int32.ofNat (q + len))), .val (.int (Int32.ofNat len)), .val (.int (Int32.ofNat len)), z9] [.int (Int32.ofNat len)])) := g9.trans (by
    refine XS.iload X9.here hexec rfl (hb hbytes d3) rfl ?_
    refine XS.iload X9.here hexec rfl (hb hbytes d5) rfl ?_
    refine XS.icmpYes X9.here hexec rfl (pc0 := 7) rfl (hb hbytes d7) rfl (ii_ge_t (nlt32 (by omega) (Nat.le_refl _))) (by decide) rfl ?_
    refine XS.iload X9.here hexec rfl (hb hbytes d44) rfl ?_
    exact Steps.refl _)
  exact ⟨T9, some (.int (Int32.ofNat len)), _, _, _, X9, by simp, rfl, rfl, (fun h => by cases h), ⟨rfl, B9, p9.from hh0, f9⟩, fun fs hl => c11.trans (X9.ireturnOut hexec hret rfl (Or.inl rfl) (hb hbytes d46) hl)⟩
end Cmp5
namespace Cmp3
def yN : MethodName := ⟨"java/lang/StringUTF16", "compress", "([CII)[B"⟩
abbrev yB : ByteArray := jdk_52_method_16_code
theorem d0 : decode yB 0 = .ok (.iload_n 2, 1) := by decide +kernel
theorem d1 : decode yB 1 = .ok (.newarray .byte, 2) := by decide +kernel
theorem d3 : decode yB 3 = .ok (.astore_n 3, 1) := by decide +kernel
theorem d4 : decode yB 4 = .ok (.aload_n 0, 1) := by decide +kernel
theorem d5 : decode yB 5 = .ok (.iload_n 1, 1) := by decide +kernel
theorem d6 : decode yB 6 = .ok (.aload_n 3, 1) := by decide +kernel
theorem d7 : decode yB 7 = .ok (.iconst 0, 1) := by decide +kernel
theorem d8 : decode yB 8 = .ok (.iload_n 2, 1) := by decide +kernel
theorem d9 : decode yB 9 = .ok (.invokestatic 115, 3) := by decide +kernel
theorem d12 : decode yB 12 = .ok (.istore 4, 2) := by decide +kernel
theorem d14 : decode yB 14 = .ok (.iload 4, 2) := by decide +kernel
theorem d16 : decode yB 16 = .ok (.iload_n 2, 1) := by decide +kernel
theorem d17 : decode yB 17 = .ok (.if_icmp (.eq) 40, 3) := by decide +kernel
theorem d57 : decode yB 57 = .ok (.aload_n 3, 1) := by decide +kernel
theorem d58 : decode yB 58 = .ok (.areturn, 1) := by decide +kernel
def site : List Cond := [.arrayClass .byte, Cmp5.tab] ++ staticW U16 115 Cmp5.yN
def tab : Cond := tabOf yN yB 6 (some (.array .byte)) site
def P (b : Addr) (A : Cell) (o len : Nat) (args : Array Value) (s : State) : Prop := args = #[.ref b, .int (Int32.ofNat o), .int (Int32.ofNat len)] ∧ Ch b A s ∧ o + len ≤ A.slots.size ∧ len ≤ 536870912 ∧ ∀ i, i < len → ¬ 255 < cv A (o + i)
def E (b : Addr) (A : Cell) (o len : Nat) (r : Option Value) (s u : State) : Prop := NewArr .byte "[B" len (fun j => .int (lo8 (cv A (o + j)))) r s u ∧ u.heap.size = s.heap.size + 1
/-- no char of the range above 255: a new byte[] of their low bytes -/
theorem law (l : Launch) (b : Addr) (A : Cell) (o len : Nat) : Law l yN 3 3 1 18 yB 6 (some (.array .byte)) site (P b A o len) (E b A o len) [] 1 len := by
  refine Law.of_walk (plainFor_of_name (by decide +kernel)) (by decide +kernel) (by decide +kernel) (by decide) (fun _ _ h => by rw [h.1]; rfl) (fun _ U U' hal hh h => ⟨h.1, h.2.1.mv hal hh, h.2.2⟩) (fun r U U' V V' h1 hal h2 h => ⟨NewArr.mv r U U' V V' h1 hal h2 h.1, by rw [h1, h2]; exact h.2⟩) ?_
  intro p e s m args below meth c s₁ X0 hexec hbytes hml hret hlk hnm hown hh0 W hP
  obtain ⟨rfl, hA, l1, l2, hp⟩ := hP
  have a31 := hA.1.2.2.2
  have c1 : Steps p.tables e below (s₁.setTop (entryFrame m #[.ref b, .int (Int32.ofNat o), .int (Int32.ofNat len)] 6)) (s₁.setTop (mkF m 0 #[.val (.ref b), .val (.int (Int32.ofNat o)), .val (.int (Int32.ofNat len)), .unset, .unset, .unset] [])) := entry rfl
  have c2 : Steps p.tables e below (s₁.setTop (entryFrame m #[.ref b, .int (Int32.ofNat o), .int (Int32.ofNat len)] 6)) (s₁.setTop (mkF m 1 #[.val (.ref b), .val (.int (Int32.ofNat o)), .val (.int (Int32.ofNat len)), .unset, .unset, .unset] [.int (Int32.ofNat len)])) := c1.trans (by
    refine XS.iloadN X0.here hexec rfl (hb hbytes d0) rfl ?_
    exact Steps.refl _)
  obtain ⟨T3, B3, X3, ba3, bs3, bv3, bh3, bf3, st3⟩ := X0.anew hexec (atype := .byte) (wk W (.arrayClass .byte)) rfl (by show len * 1 ≤ _; omega) (by omega) (g := (mkF m 1 #[.val (.ref b), .val (.int (Int32.ofNat o)), .val (.int (Int32.ofNat len)), .unset, .unset, .unset] [.int (Int32.ofNat len)])) rfl (hb hbytes d1) (rest := []) rfl (Nat.le_refl _) (by show 0 + len ≤ len; omega)
  rw [hh0] at ba3 st3
  have kp3 : XT.Kept s T3 := (XT.Kept.of_eq hh0).push bh3
  have hA3 := hA.keep X3.warmed.alike (kp3 _ _ hA.1.1)
  have hne : b ≠ s.heap.size := hA.1.ne
  have c4 : Steps p.tables e below (s₁.setTop (entryFrame m #[.ref b, .int (Int32.ofNat o), .int (Int32.ofNat len)] 6)) (T3.setTop (mkF m 3 #[.val (.ref b), .val (.int (Int32.ofNat o)), .val (.int (Int32.ofNat len)), .unset, .unset, .unset] [.ref s.heap.size])) := c2.trans (st3 _ (Steps.refl _))
  have c5 : Steps p.tables e below (s₁.setTop (entryFrame m #[.ref b, .int (Int32.ofNat o), .int (Int32.ofNat len)] 6)) (T3.setTop (mkF m 9 #[.val (.ref b), .val (.int (Int32.ofNat o)), .val (.int (Int32.ofNat len)), .val (.ref s.heap.size), .unset, .unset] [.int (Int32.ofNat len), .int 0, .ref s.heap.size, .int (Int32.ofNat o), .ref b])) := c4.trans (by
    refine XS.astoreN X3.here hexec rfl (hb hbytes d3) rfl rfl rfl ?_
    refine XS.aloadN X3.here hexec rfl (hb hbytes d4) rfl rfl ?_
    refine XS.iloadN X3.here hexec rfl (hb hbytes d5) rfl ?_
    refine XS.aloadN X3.here hexec rfl (hb hbytes d6) rfl rfl ?_
    refine iconstV X3.here hexec rfl 0 (hb hbytes d7) (by decide) ?_
    refine XS.iloadN X3.here hexec rfl (hb hbytes d8) rfl ?_
    exact Steps.refl _)
  obtain ⟨v6, T6, X6, E6, g6⟩ := X3.callS hexec (Cmp5.law l b A s.heap.size B3 o 0 len) hown (wks W (staticW U16 115 Cmp5.yN)) (wk W Cmp5.tab) (W := 0) (Nat.le_of_ble_eq_true rfl) (Nat.le_of_ble_eq_true rfl) (Nat.le_refl _) (by show 0 + len + 0 ≤ len; omega) (g := (mkF m 9 #[.val (.ref b), .val (.int (Int32.ofNat o)), .val (.int (Int32.ofNat len)), .val (.ref s.heap.size), .unset, .unset] [.int (Int32.ofNat len), .int (Int32.ofNat 0), .ref s.heap.size, .int (Int32.ofNat o), .ref b])) rfl (by rw [hml]; rfl) c5 (argsL := [.ref b, .int (Int32.ofNat o), .ref s.heap.size, .int (Int32.ofNat 0), .int (Int32.ofNat len)]) (rest := []) rfl rfl (by show 2 * 0 + 0 ≤ _; decide) (hb hbytes d9) (⟨rfl, hA3, ba3, hne, l1, by rw [bs3]; simp, hp⟩)
  obtain ⟨rfl, B6, p6, f6⟩ := E6
  have c7 : Steps p.tables e below (s₁.setTop (entryFrame m #[.ref b, .int (Int32.ofNat o), .int (Int32.ofNat len)] 6)) (T6.setTop (mkF m 12 #[.val (.ref b), .val (.int (Int32.ofNat o)), .val (.int (Int32.ofNat len)), .val (.ref s.heap.size), .unset, .unset] [.int (Int32.ofNat len)])) := g6
  have c8 : Steps p.tables e below (s₁.setTop (entryFrame m #[.ref b, .int (Int32.ofNat o), .int (Int32.ofNat len)] 6)) (T6.setTop (mkF m 58 #[.val (.ref b), .val (.int (Int32.ofNat o)), .val (.int (Int32.ofNat len)), .val (.ref s.heap.size), .val (.int (Int32.ofNat len)), .unset] [.ref s.heap.size])) := c7.trans (by
    refine XS.istore X6.here hexec rfl (hb hbytes d12) rfl rfl ?_
    refine XS.iload X6.here hexec rfl (hb hbytes d14) rfl ?_
    refine XS.iloadN X6.here hexec rfl (hb hbytes d16) rfl ?_
    refine XS.icmpYes X6.here hexec rfl (pc0 := 17) rfl (hb hbytes d17) rfl (ii_eq_t rfl) (by decide) rfl ?_
    refine XS.aloadN X6.here hexec rfl (hb hbytes d57) rfl rfl ?_
    exact Steps.refl _)
  have X8 := X6.wide (L' := []) (cells' := 1) (slots' := len) (fun x hx hlt => by
    simp only [List.nil_append, copyLocs, List.mem_map, List.mem_range] at hx
    obtain ⟨i, -, rfl⟩ := hx
    exact absurd hlt (Nat.lt_irrefl _)) (Nat.le_refl _) (by omega)
  exact ⟨T6, some (.ref s.heap.size), _, _, _, X8, rfl, rfl, rfl, (fun h => by cases h), ⟨⟨rfl, B6, ba3.like (X3.warmed.alike.symm.trans X6.warmed.alike) p6.1 f6.1 f6.2.1 f6.2.2.1, f6.2.1.trans bv3, by rw [X6.warmed.alike.findClass, f6.1]; exact bf3, by rw [f6.2.2.1, bs3]; simp, fun j hj => by rw [f6.2.2.2 j, if_pos (by omega)]; rfl, kp3.put p6 (Nat.le_refl _)⟩, by rw [p6.2.2, bh3, hh0]; simp⟩, fun fs hl => c8.trans (X8.areturnOut hexec rfl hret rfl (hb hbytes d58) hl)⟩
end Cmp3
namespace CodL
def yN : MethodName := ⟨"java/lang/StringUTF16", "coderFromArrayLen", "([BI)B"⟩
abbrev yB : ByteArray := jdk_52_method_15_code
theorem d0 : decode yB 0 = .ok (.iload_n 1, 1) := by decide +kernel
theorem d1 : decode yB 1 = .ok (.aload_n 0, 1) := by decide +kernel
theorem d2 : decode yB 2 = .ok (.arraylength, 1) := by decide +kernel
theorem d3 : decode yB 3 = .ok (.isub, 1) := by decide +kernel
theorem d4 : decode yB 4 = .ok (.bipush 31, 2) := by decide +kernel
theorem d6 : decode yB 6 = .ok (.iushr, 1) := by decide +kernel
theorem d7 : decode yB 7 = .ok (.i2b, 1) := by decide +kernel
theorem d8 : decode yB 8 = .ok (.ireturn, 1) := by decide +kernel
def site : List Cond := []
def tab : Cond := tabOf yN yB 2 (some .byte) site
def P (d : Addr) (B : Cell) (args : Array Value) (s : State) : Prop := args = #[.ref d, .int (Int32.ofNat B.slots.size)] ∧ Arr .byte d B s
def E (r : Option Value) (s u : State) : Prop := XT.PureE (some (.int 0)) r s u
/-- an array as long as the number of chars: LATIN1 -/
theorem law (l : Launch) (d : Addr) (B : Cell) : Law l yN 2 2 0 0 yB 2 (some .byte) site (P d B) E [] 0 0 := by
  refine Law.of_walk (plainFor_of_name (by decide +kernel)) (by decide +kernel) (by decide +kernel) (by decide) (fun _ _ h => by rw [h.1]; rfl) (fun _ U U' hal hh h => ⟨h.1, h.2.mv hal hh⟩) (fun r U U' V V' h1 hal h2 h => XT.PureE.mv r U U' V V' h1 hal h2 h) ?_
  intro p e s m args below meth c s₁ X0 hexec hbytes hml hret hlk hnm hown hh0 W hP
  obtain ⟨rfl, hB⟩ := hP
  have hB0 := hB.mv X0.warmed.alike hh0
  have c1 : Steps p.tables e below (s₁.setTop (entryFrame m #[.ref d, .int (Int32.ofNat B.slots.size)] 2)) (s₁.setTop (mkF m 0 #[.val (.ref d), .val (.int (Int32.ofNat B.slots.size))] [])) := entry rfl
  have c2 : Steps p.tables e below (s₁.setTop (entryFrame m #[.ref d, .int (Int32.ofNat B.slots.size)] 2)) (s₁.setTop (mkF m 2 #[.val (.ref d), .val (.int (Int32.ofNat B.slots.size))] [.ref d, .int (Int32.ofNat B.slots.size)])) := c1.trans (by
    refine XS.iloadN X0.here hexec rfl (hb hbytes d0) rfl ?_
    refine XS.aloadN X0.here hexec rfl (hb hbytes d1) rfl rfl ?_
    exact Steps.refl _)
  have c3 : Steps p.tables e below (s₁.setTop (entryFrame m #[.ref d, .int (Int32.ofNat B.slots.size)] 2)) (s₁.setTop (mkF m 8 #[.val (.ref d), .val (.int (Int32.ofNat B.slots.size))] [.int (lo8 (ushr (Int32.ofNat B.slots.size - Int32.ofNat B.slots.size) 31))])) := c2.trans (by
    refine X0.alen hexec hB0 rfl rfl (hb hbytes d2) ?_
    refine XS.isub X0.here hexec rfl (hb hbytes d3) rfl ?_
    refine bipushV X0.here hexec rfl 31 (hb hbytes d4) (by decide) ?_
    refine iushr X0.here hexec rfl (hb hbytes d6) rfl ?_
    refine i2b X0.here hexec rfl (hb hbytes d7) rfl ?_
    exact Steps.refl _)
  have e0 : lo8 (ushr (Int32.ofNat B.slots.size - Int32.ofNat B.slots.size) 31) = 0 := by rw [Int32.sub_self]; decide
  rw [e0] at c3
  exact ⟨s₁, some (.int 0), _, _, _, X0, rfl, rfl, rfl, (fun h => by cases h), ⟨rfl, hh0⟩, fun fs hl => c3.trans (X0.ireturnOut hexec hret rfl (Or.inr (Or.inr (Or.inl rfl))) (hb hbytes d8) hl)⟩
end CodL
/-- the String at a is Latin-1 over a new byte[] (the heap's one new cell): the low bytes of the len chars of A from o on; every cell but a is kept -/
def Got (a : Addr) (D : Cell) (fV fC : Field) (A : Cell) (o len : Nat) (r : Option Value) (s u : State) : Prop := r = none ∧ ∃ D' V : Cell, Blank "java/lang/String" a D' u ∧ Same D D' [fV.slot, fC.slot] ∧ D'.slots[fV.slot]? = some (.ref s.heap.size) ∧ D'.slots[fC.slot]? = some (.int 0) ∧ Arr .byte s.heap.size V u ∧ V.vm = .none ∧ u.vm.findClass "[B" = some V.cls ∧ V.slots.size = len ∧ (∀ j, j < len → V.slots[j]? = some (.int (lo8 (cv A (o + j))))) ∧ (∀ (y : Addr) (c : Cell), y ≠ a → s.heap[y]? = some c → u.heap[y]? = some c) ∧ u.heap.size = s.heap.size + 1
theorem Got.mv {a : Addr} {D A : Cell} {fV fC : Field} {o len : Nat} : ∀ r (U U' V V' : State), U'.heap = U.heap → V.vm.Alike V'.vm → V'.heap = V.heap → Got a D fV fC A o len r U V → Got a D fV fC A o len r U' V' :=
  fun r U U' V V' h1 hal h2 ⟨e0, D', X, a1, a2, a3, a4, a5, a6, a7, a8, a9, a10, a11⟩ => ⟨e0, D', X, a1.mv hal h2, a2, by rw [h1]; exact a3, a4, by rw [h1]; exact a5.mv hal h2, a6, by rw [hal.findClass]; exact a7, a8, a9, by rw [h1, h2]; exact a10, by rw [h1, h2]; exact a11⟩
namespace New4
def yN : MethodName := ⟨"java/lang/String", "<init>", "([CIILjava/lang/Void;)V"⟩
abbrev yB : ByteArray := jdk_42_method_149_code
theorem d0 : decode yB 0 = .ok (.aload_n 0, 1) := by decide +kernel
theorem d1 : decode yB 1 = .ok (.invokespecial 1, 3) := by decide +kernel
theorem d4 : decode yB 4 = .ok (.iload_n 3, 1) := by decide +kernel
theorem d5 : decode yB 5 = .ok (.ifCond (.ne) 22, 3) := by decide +kernel
theorem d27 : decode yB 27 = .ok (.getstatic 38, 3) := by decide +kernel
theorem d30 : decode yB 30 = .ok (.ifCond (.eq) 28, 3) := by decide +kernel
theorem d33 : decode yB 33 = .ok (.aload_n 1, 1) := by decide +kernel
theorem d34 : decode yB 34 = .ok (.iload_n 2, 1) := by decide +kernel
theorem d35 : decode yB 35 = .ok (.iload_n 3, 1) := by decide +kernel
theorem d36 : decode yB 36 = .ok (.invokestatic 177, 3) := by decide +kernel
theorem d39 : decode yB 39 = .ok (.astore 5, 2) := by decide +kernel
theorem d41 : decode yB 41 = .ok (.aload_n 0, 1) := by decide +kernel
theorem d42 : decode yB 42 = .ok (.aload 5, 2) := by decide +kernel
theorem d44 : decode yB 44 = .ok (.iload_n 3, 1) := by decide +kernel
theorem d45 : decode yB 45 = .ok (.invokestatic 47, 3) := by decide +kernel
theorem d48 : decode yB 48 = .ok (.putfield 15, 3) := by decide +kernel
theorem d51 : decode yB 51 = .ok (.aload_n 0, 1) := by decide +kernel
theorem d52 : decode yB 52 = .ok (.aload 5, 2) := by decide +kernel
theorem d54 : decode yB 54 = .ok (.putfield 9, 3) := by decide +kernel
theorem d57 : decode yB 57 = .ok (.return_, 1) := by decide +kernel
def site : List Cond := [.fieldLink "java/lang/String" 38 "java/lang/String" "COMPACT_STRINGS" "Z", Cmp3.tab, CodL.tab, .laysFinal "java/lang/String" "java/lang/String" "value" "[B", .fieldLink "java/lang/String" 9 "java/lang/String" "value" "[B", .laysFinal "java/lang/String" "java/lang/String" "coder" "B", .fieldLink "java/lang/String" 15 "java/lang/String" "coder" "B"] ++ objW "java/lang/String" 1 ++ staticW "java/lang/String" 177 Cmp3.yN ++ staticW "java/lang/String" 47 CodL.yN
def tab : Cond := tabOf yN yB 6 none site
def P (a : Addr) (D : Cell) (fV fC : Field) (b : Addr) (A : Cell) (z : Int32) (o len : Nat) (args : Array Value) (s : State) : Prop := args = #[.ref a, .ref b, .int (Int32.ofNat o), .int (Int32.ofNat len), .null] ∧ Blank "java/lang/String" a D s ∧ Found "java/lang/String" "value" "[B" fV s ∧ Found "java/lang/String" "coder" "B" fC s ∧ Ch b A s ∧ StaticIs s "java/lang/String" "COMPACT_STRINGS" "Z" (.int z) ∧ ¬ z = 0 ∧ 0 < len ∧ o + len ≤ A.slots.size ∧ len ≤ 536870912 ∧ ∀ i, i < len → ¬ 255 < cv A (o + i)
def E (a : Addr) (D : Cell) (fV fC : Field) (A : Cell) (o len : Nat) (r : Option Value) (s u : State) : Prop := Got a D fV fC A o len r s u
/-- len > 0, no char of the range above 255: a Latin-1 String of their low bytes -/
theorem law (l : Launch) (a : Addr) (D : Cell) (fV fC : Field) (b : Addr) (A : Cell) (z : Int32) (o len : Nat) : Law l yN 5 4 2 35 yB 6 none site (P a D fV fC b A z o len) (E a D fV fC A o len) [⟨a, fC.slot⟩, ⟨a, fV.slot⟩] 1 len := by
  refine Law.of_walk (plainFor_of_name (by decide +kernel)) (by decide +kernel) (by decide +kernel) (by decide) (fun _ _ h => by rw [h.1]; rfl) (fun _ U U' hal hh h => ⟨h.1, h.2.1.mv hal hh, h.2.2.1.al hal, h.2.2.2.1.al hal, h.2.2.2.2.1.mv hal hh, h.2.2.2.2.2.1.there hal hh, h.2.2.2.2.2.2⟩) (fun r U U' V V' h1 hal h2 h => Got.mv r U U' V V' h1 hal h2 h) ?_
  intro p e s m args below meth c s₁ X0 hexec hbytes hml hret hlk hnm hown hh0 W hP
  obtain ⟨rfl, hB, f1, f2, hA, s1, hz, l0, l1, l2, hp⟩ := hP
  have a31 := hA.1.2.2.2
  have c1 : Steps p.tables e below (s₁.setTop (entryFrame m #[.ref a, .ref b, .int (Int32.ofNat o), .int (Int32.ofNat len), .null] 6)) (s₁.setTop (mkF m 0 #[.val (.ref a), .val (.ref b), .val (.int (Int32.ofNat o)), .val (.int (Int32.ofNat len)), .val .null, .unset] [])) := entry rfl
  have c2 : Steps p.tables e below (s₁.setTop (entryFrame m #[.ref a, .ref b, .int (Int32.ofNat o), .int (Int32.ofNat len), .null] 6)) (s₁.setTop (mkF m 1 #[.val (.ref a), .val (.ref b), .val (.int (Int32.ofNat o)), .val (.int (Int32.ofNat len)), .val .null, .unset] [.ref a])) := c1.trans (by
    refine XS.aloadN X0.here hexec rfl (hb hbytes d0) rfl rfl ?_
    exact Steps.refl _)
  obtain ⟨T3, X3, q3, st3⟩ := X0.oinit hexec hown (wks W (objW "java/lang/String" 1)) (g := (mkF m 1 #[.val (.ref a), .val (.ref b), .val (.int (Int32.ofNat o)), .val (.int (Int32.ofNat len)), .val .null, .unset] [.ref a])) rfl (by rw [hml]; rfl) (rest := []) rfl (hb hbytes d1) (W := 0) (by show 2 * 0 + 0 ≤ _; decide) (Nat.le_of_ble_eq_true rfl) (Nat.le_of_ble_eq_true rfl)
  have hh3 := q3.trans hh0
  have c4 : Steps p.tables e below (s₁.setTop (entryFrame m #[.ref a, .ref b, .int (Int32.ofNat o), .int (Int32.ofNat len), .null] 6)) (T3.setTop (mkF m 27 #[.val (.ref a), .val (.ref b), .val (.int (Int32.ofNat o)), .val (.int (Int32.ofNat len)), .val .null, .unset] [])) := (c2.trans (st3 _ (Steps.refl _))).trans (by
    refine XS.iloadN X3.here hexec rfl (hb hbytes d4) rfl ?_
    refine XS.ifYes X3.here hexec rfl (pc0 := 5) rfl (hb hbytes d5) rfl (i0_ne_t (nz32 (by omega) l0)) (by decide) rfl ?_
    exact Steps.refl _)
  obtain ⟨T5, X5, q5, st5⟩ := X3.sget hexec hown (wk W (.fieldLink "java/lang/String" 38 "java/lang/String" "COMPACT_STRINGS" "Z")) s1 (fun _ _ h => by rw [hh3]; exact h) (g := (mkF m 27 #[.val (.ref a), .val (.ref b), .val (.int (Int32.ofNat o)), .val (.int (Int32.ofNat len)), .val .null, .unset] [])) rfl (hb hbytes d27)
  have hh5 := q5.trans hh3
  have c6 : Steps p.tables e below (s₁.setTop (entryFrame m #[.ref a, .ref b, .int (Int32.ofNat o), .int (Int32.ofNat len), .null] 6)) (T5.setTop (mkF m 30 #[.val (.ref a), .val (.ref b), .val (.int (Int32.ofNat o)), .val (.int (Int32.ofNat len)), .val .null, .unset] [.int z])) := c4.trans (st5 _ (Steps.refl _))
  have c7 : Steps p.tables e below (s₁.setTop (entryFrame m #[.ref a, .ref b, .int (Int32.ofNat o), .int (Int32.ofNat len), .null] 6)) (T5.setTop (mkF m 36 #[.val (.ref a), .val (.ref b), .val (.int (Int32.ofNat o)), .val (.int (Int32.ofNat len)), .val .null, .unset] [.int (Int32.ofNat len), .int (Int32.ofNat o), .ref b])) := c6.trans (by
    refine XS.ifNo X5.here hexec rfl (hb hbytes d30) rfl (i0_eq_f hz) ?_
    refine XS.aloadN X5.here hexec rfl (hb hbytes d33) rfl rfl ?_
    refine XS.iloadN X5.here hexec rfl (hb hbytes d34) rfl ?_
    refine XS.iloadN X5.here hexec rfl (hb hbytes d35) rfl ?_
    exact Steps.refl _)
  obtain ⟨v8, T8, X8, E8, g8⟩ := X5.callS hexec (Cmp3.law l b A o len) hown (wks W (staticW "java/lang/String" 177 Cmp3.yN)) (wk W Cmp3.tab) (W := 0) (Nat.le_of_ble_eq_true rfl) (Nat.le_of_ble_eq_true rfl) (Nat.le_refl _) (by show 0 + len ≤ len; omega) (g := (mkF m 36 #[.val (.ref a), .val (.ref b), .val (.int (Int32.ofNat o)), .val (.int (Int32.ofNat len)), .val .null, .unset] [.int (Int32.ofNat len), .int (Int32.ofNat o), .ref b])) rfl (by rw [hml]; rfl) c7 (argsL := [.ref b, .int (Int32.ofNat o), .int (Int32.ofNat len)]) (rest := []) rfl rfl (by show 2 * 0 + 0 ≤ _; decide) (hb hbytes d36) (⟨rfl, hA.mv X5.warmed.alike hh5, l1, l2, hp⟩)
  obtain ⟨e8, z8⟩ := E8
  obtain ⟨rfl, N, n1, n2, n3, n4, n5, n6⟩ := NewArr.mv _ T5 s _ _ hh5.symm (Vm.Alike.refl _) rfl e8
  rw [hh5] at z8
  have hB1 := hB.keep X8.warmed.alike (n6 _ _ hB.1)
  have hne : s.heap.size ≠ a := (Nat.ne_of_lt (Array.getElem?_eq_some_iff.mp hB.1).1).symm
  have c9 : Steps p.tables e below (s₁.setTop (entryFrame m #[.ref a, .ref b, .int (Int32.ofNat o), .int (Int32.ofNat len), .null] 6)) (T8.setTop (mkF m 39 #[.val (.ref a), .val (.ref b), .val (.int (Int32.ofNat o)), .val (.int (Int32.ofNat len)), .val .null, .unset] [.ref s.heap.size])) := g8
  have c10 : Steps p.tables e below (s₁.setTop (entryFrame m #[.ref a, .ref b, .int (Int32.ofNat o), .int (Int32.ofNat len), .null] 6)) (T8.setTop (mkF m 45 #[.val (.ref a), .val (.ref b), .val (.int (Int32.ofNat o)), .val (.int (Int32.ofNat len)), .val .null, .val (.ref s.heap.size)] [.int (Int32.ofNat N.slots.size), .ref s.heap.size, .ref a])) := by
    have hc : Steps p.tables e below (s₁.setTop (entryFrame m #[.ref a, .ref b, .int (Int32.ofNat o), .int (Int32.ofNat len), .null] 6)) (T8.setTop (mkF m 45 #[.val (.ref a), .val (.ref b), .val (.int (Int32.ofNat o)), .val (.int (Int32.ofNat len)), .val .null, .val (.ref s.heap.size)] [.int (Int32.ofNat len), .ref s.heap.size, .ref a])) := c9.trans (by
      refine XS.astore X8.here hexec rfl (hb hbytes d39) rfl rfl rfl ?_
      refine XS.aloadN X8.here hexec rfl (hb hbytes d41) rfl rfl ?_
      refine XS.aload X8.here hexec rfl (hb hbytes d42) rfl rfl ?_
      refine XS.iloadN X8.here hexec rfl (hb hbytes d44) rfl ?_
      exact Steps.refl _)
    rw [n4]; exact hc
  obtain ⟨v11, T11, X11, E11, g11⟩ := X8.callS hexec (CodL.law l s.heap.size N) hown (wks W (staticW "java/lang/String" 47 CodL.yN)) (wk W CodL.tab) (W := 1) (Nat.le_of_ble_eq_true rfl) (Nat.le_of_ble_eq_true rfl) (Nat.le_refl _) (by show 0 + len + 0 ≤ len; omega) (g := (mkF m 45 #[.val (.ref a), .val (.ref b), .val (.int (Int32.ofNat o)), .val (.int (Int32.ofNat len)), .val .null, .val (.ref s.heap.size)] [.int (Int32.ofNat N.slots.size), .ref s.heap.size, .ref a])) rfl (by rw [hml]; rfl) c10 (argsL := [.ref s.heap.size, .int (Int32.ofNat N.slots.size)]) (rest := [.ref a]) rfl rfl (by show 2 * 0 + (1 + 0) ≤ _; decide) (hb hbytes d45) (⟨rfl, n1⟩)
  obtain ⟨rfl, q11⟩ := E11
  have hB11 := hB1.mv (X8.warmed.alike.symm.trans X11.warmed.alike) q11
  have c12 : Steps p.tables e below (s₁.setTop (entryFrame m #[.ref a, .ref b, .int (Int32.ofNat o), .int (Int32.ofNat len), .null] 6)) (T11.setTop (mkF m 48 #[.val (.ref a), .val (.ref b), .val (.int (Int32.ofNat o)), .val (.int (Int32.ofNat len)), .val .null, .val (.ref s.heap.size)] [.int 0, .ref a])) := g11
  obtain ⟨T13, X13, p13, bl13, sl13, st13⟩ := X11.finit hexec hown (wk W (.fieldLink "java/lang/String" 15 "java/lang/String" "coder" "B")) (Or.inr ⟨_, (wk W (.laysFinal "java/lang/String" "java/lang/String" "coder" "B"))⟩) (Or.inl ⟨rfl, hnm⟩) f2 (Or.inl rfl) hB11 (t := .byte) (by decide +kernel) rfl (g := (mkF m 48 #[.val (.ref a), .val (.ref b), .val (.int (Int32.ofNat o)), .val (.int (Int32.ofNat len)), .val .null, .val (.ref s.heap.size)] [.int 0, .ref a])) rfl (rest := []) rfl (hb hbytes d48)
  have c14 : Steps p.tables e below (s₁.setTop (entryFrame m #[.ref a, .ref b, .int (Int32.ofNat o), .int (Int32.ofNat len), .null] 6)) (T13.setTop (mkF m 54 #[.val (.ref a), .val (.ref b), .val (.int (Int32.ofNat o)), .val (.int (Int32.ofNat len)), .val .null, .val (.ref s.heap.size)] [.ref s.heap.size, .ref a])) := (c12.trans (st13 _ (Steps.refl _))).trans (by
    refine XS.aloadN X13.here hexec rfl (hb hbytes d51) rfl rfl ?_
    refine XS.aload X13.here hexec rfl (hb hbytes d52) rfl rfl ?_
    exact Steps.refl _)
  obtain ⟨T15, X15, p15, bl15, sl15, st15⟩ := X13.finit hexec hown (wk W (.fieldLink "java/lang/String" 9 "java/lang/String" "value" "[B")) (Or.inr ⟨_, (wk W (.laysFinal "java/lang/String" "java/lang/String" "value" "[B"))⟩) (Or.inl ⟨rfl, hnm⟩) f1 (Or.inl rfl) bl13 (t := (.array .byte)) (by decide +kernel) rfl (g := (mkF m 54 #[.val (.ref a), .val (.ref b), .val (.int (Int32.ofNat o)), .val (.int (Int32.ofNat len)), .val .null, .val (.ref s.heap.size)] [.ref s.heap.size, .ref a])) rfl (rest := []) rfl (hb hbytes d54)
  have c16 : Steps p.tables e below (s₁.setTop (entryFrame m #[.ref a, .ref b, .int (Int32.ofNat o), .int (Int32.ofNat len), .null] 6)) (T15.setTop (mkF m 57 #[.val (.ref a), .val (.ref b), .val (.int (Int32.ofNat o)), .val (.int (Int32.ofNat len)), .val .null, .val (.ref s.heap.size)] [])) := c14.trans (st15 _ (Steps.refl _))
  have ap := apart (Or.inr ⟨_, (wk W (.laysFinal "java/lang/String" "java/lang/String" "value" "[B"))⟩) (Or.inr ⟨_, (wk W (.laysFinal "java/lang/String" "java/lang/String" "coder" "B"))⟩) f1 f2 (t₁ := .array .byte) (t₂ := .byte) (by decide +kernel) (by decide +kernel) (by decide)
  have al := X8.warmed.alike.symm.trans X15.warmed.alike
  have n7 : T11.heap[s.heap.size]? = some N := by rw [q11]; exact n1.1
  exact ⟨T15, none, _, _, _, X15, by simp, rfl, by omega, (fun _ => rfl), ⟨rfl, _, N, bl15, ((Same.refl D _).set _ (by simp)).set _ (by simp), sl15, (Cell.slots_setSlot_ne _ ap).trans sl13, n1.keep al (p15.other hne (p13.other hne n7)), n2, by rw [al.findClass]; exact n3, n4, n5, fun y c h1 h2 => p15.other h1 (p13.other h1 (by rw [q11]; exact n6 y c h2)), by rw [p15.2.2, p13.2.2, q11]; exact z8⟩, fun fs hl => c16.trans (X15.returnOut hexec hret (hb hbytes d57) hl)⟩
end New4
namespace New1
def yN : MethodName := ⟨"java/lang/String", "<init>", "([C)V"⟩
abbrev yB : ByteArray := jdk_42_method_3_code
theorem d0 : decode yB 0 = .ok (.aload_n 0, 1) := by decide +kernel
theorem d1 : decode yB 1 = .ok (.aload_n 1, 1) := by decide +kernel
theorem d2 : decode yB 2 = .ok (.iconst 0, 1) := by decide +kernel
theorem d3 : decode yB 3 = .ok (.aload_n 1, 1) := by decide +kernel
theorem d4 : decode yB 4 = .ok (.arraylength, 1) := by decide +kernel
theorem d5 : decode yB 5 = .ok (.aconst_null, 1) := by decide +kernel
theorem d6 : decode yB 6 = .ok (.invokespecial 27, 3) := by decide +kernel
theorem d9 : decode yB 9 = .ok (.return_, 1) := by decide +kernel
def site : List Cond := [New4.tab] ++ initW "java/lang/String" 27 New4.yN
def tab : Cond := tabOf yN yB 2 none site
def P (a : Addr) (D : Cell) (fV fC : Field) (b : Addr) (A : Cell) (z : Int32) (args : Array Value) (s : State) : Prop := args = #[.ref a, .ref b] ∧ Blank "java/lang/String" a D s ∧ Found "java/lang/String" "value" "[B" fV s ∧ Found "java/lang/String" "coder" "B" fC s ∧ Ch b A s ∧ StaticIs s "java/lang/String" "COMPACT_STRINGS" "Z" (.int z) ∧ ¬ z = 0 ∧ 0 < A.slots.size ∧ A.slots.size ≤ 536870912 ∧ ∀ i, i < A.slots.size → ¬ 255 < cv A i
def E (a : Addr) (D : Cell) (fV fC : Field) (A : Cell) (r : Option Value) (s u : State) : Prop := Got a D fV fC A 0 A.slots.size r s u
/-- new String(chars), not empty, no char above 255: a Latin-1 String of their low bytes -/
theorem law (l : Launch) (a : Addr) (D : Cell) (fV fC : Field) (b : Addr) (A : Cell) (z : Int32) : Law l yN 2 1 3 52 yB 2 none site (P a D fV fC b A z) (E a D fV fC A) [⟨a, fC.slot⟩, ⟨a, fV.slot⟩] 1 A.slots.size := by
  refine Law.of_walk (plainFor_of_name (by decide +kernel)) (by decide +kernel) (by decide +kernel) (by decide) (fun _ _ h => by rw [h.1]; rfl) (fun _ U U' hal hh h => ⟨h.1, h.2.1.mv hal hh, h.2.2.1.al hal, h.2.2.2.1.al hal, h.2.2.2.2.1.mv hal hh, h.2.2.2.2.2.1.there hal hh, h.2.2.2.2.2.2⟩) (fun r U U' V V' h1 hal h2 h => Got.mv r U U' V V' h1 hal h2 h) ?_
  intro p e s m args below meth c s₁ X0 hexec hbytes hml hret hlk hnm hown hh0 W hP
  obtain ⟨rfl, hB, f1, f2, hA, s1, hz, l0, l2, hp⟩ := hP
  have c1 : Steps p.tables e below (s₁.setTop (entryFrame m #[.ref a, .ref b] 2)) (s₁.setTop (mkF m 0 #[.val (.ref a), .val (.ref b)] [])) := entry rfl
  have c2 : Steps p.tables e below (s₁.setTop (entryFrame m #[.ref a, .ref b] 2)) (s₁.setTop (mkF m 6 #[.val (.ref a), .val (.ref b)] [.null, .int (Int32.ofNat A.slots.size), .int 0, .ref b, .ref a])) := c1.trans (by
    refine XS.aloadN X0.here hexec rfl (hb hbytes d0) rfl rfl ?_
    refine XS.aloadN X0.here hexec rfl (hb hbytes d1) rfl rfl ?_
    refine iconstV X0.here hexec rfl 0 (hb hbytes d2) (by decide) ?_
    refine XS.aloadN X0.here hexec rfl (hb hbytes d3) rfl rfl ?_
    refine X0.alen hexec (hA.1.mv X0.warmed.alike hh0) rfl rfl (hb hbytes d4) ?_
    refine XS.aconstNull X0.here hexec rfl (hb hbytes d5) ?_
    exact Steps.refl _)
  obtain ⟨v3, T3, X3, E3, g3⟩ := X0.callN hexec (New4.law l a D fV fC b A z 0 A.slots.size) rfl hown (wks W (initW "java/lang/String" 27 New4.yN)) (W New4.tab (by simp only [site, List.mem_cons, List.mem_append, true_or, or_true])) (W := 0) (Nat.le_of_ble_eq_true rfl) (Nat.le_of_ble_eq_true rfl) (Nat.le_refl _) (by show 0 + A.slots.size ≤ A.slots.size; omega) (g := (mkF m 6 #[.val (.ref a), .val (.ref b)] [.null, .int (Int32.ofNat A.slots.size), .int (Int32.ofNat 0), .ref b, .ref a])) rfl (by rw [hml]; rfl) c2 (argsL := [.ref b, .int (Int32.ofNat 0), .int (Int32.ofNat A.slots.size), .null]) (rest := []) rfl rfl (by show 2 * 0 + 0 ≤ _; decide) (hb hbytes d6) (⟨rfl, hB.mv X0.warmed.alike hh0, f1.al X0.warmed.alike, f2.al X0.warmed.alike, hA.mv X0.warmed.alike hh0, s1.there X0.warmed.alike hh0, hz, l0, by omega, l2, fun i hi => by rw [Nat.zero_add]; exact hp i hi⟩)
  have e0 := Got.mv _ s₁ s _ _ hh0.symm (Vm.Alike.refl _) rfl E3
  obtain rfl := e0.1
  have c4 : Steps p.tables e below (s₁.setTop (entryFrame m #[.ref a, .ref b] 2)) (T3.setTop (mkF m 9 #[.val (.ref a), .val (.ref b)] [])) := g3
  exact ⟨T3, none, _, _, _, X3, by simp, rfl, by omega, (fun _ => rfl), e0, fun fs hl => c4.trans (X3.returnOut hexec hret (hb hbytes d9) hl)⟩
theorem pays {l : Launch} {R : Room} {p : Program} {e : Env} {below : List Frame} {s : State} {sargs : Array Value} {len W : Nat} (a : Addr) (D : Cell) (fV fC : Field) (b : Addr) (A : Cell) (z : Int32) (htab : tab.before sargs s = true) (hfr : 4 ≤ R.frames) (hlo : W + 65 ≤ R.locals) :
    Back l R p e below s sargs yN len W (fun A₁ a₁ => A₁.cells + 1 ≤ R.cells ∧ A₁.slots + A.slots.size ≤ R.slots ∧ P a D fV fC b A z a₁ A₁.U) (fun A₁ _ v₁ B₁ => E a D fV fC A v₁ A₁.U B₁.U ∧ B₁.locs = A₁.locs ++ [⟨a, fC.slot⟩, ⟨a, fV.slot⟩] ∧ B₁.cells = A₁.cells + 1 ∧ B₁.slots = A₁.slots + A.slots.size) :=
  (law l a D fV fC b A z).pays htab hfr (by omega)
end New1
/-- the byte, read back as charAt reads it, is the char -/
theorem lo8_mask {x : Int32} (h0 : ¬ x < 0) (h1 : ¬ 255 < x) : lo8 x &&& 255 = x := by
  have t : ∀ k : Fin 256, lo8 (Int32.ofNat k.val) &&& 255 = Int32.ofNat k.val := by decide +kernel
  rw [Int32.lt_iff_toInt_lt] at h0 h1
  have e0 : (0 : Int32).toInt = 0 := rfl
  have e1 : (255 : Int32).toInt = 255 := rfl
  obtain ⟨k, hk⟩ : ∃ k : Nat, x.toInt = k := ⟨x.toInt.toNat, by omega⟩
  have hx : x = Int32.ofNat k := Int32.toInt_inj.mp (by rw [hk, Int32.toInt_ofNat_small (by omega)])
  rw [hx]
  exact t ⟨k, by omega⟩
end StrChars
namespace StrChars.Road
open Jvm Sem ClassFile Op Lib Jvm.Stand Jvm.Free Jvm.Free.XT
open Jvm.Lib.Cold (StaticIs)
abbrev ST : String := "java/lang/String"
/-- every table word that New1's law asks, flat -/
abbrev words : List Jvm.Cond := [.code New1.yN New1.yB 2 none, .initialized ST, .methodLink ST 27 New4.yN, .instanceMethod New4.yN,
  .code New4.yN New4.yB 6 none, .fieldLink ST 38 ST "COMPACT_STRINGS" "Z", .laysFinal ST ST "value" "[B", .fieldLink ST 9 ST "value" "[B", .laysFinal ST ST "coder" "B", .fieldLink ST 15 ST "coder" "B",
  .methodLink ST 1 Lib.objectInit, .instanceMethod Lib.objectInit, .code Lib.objectInit ⟨#[0xb1]⟩ 1 none, .methodLink ST 177 Cmp3.yN, .static Cmp3.yN, .methodLink ST 47 CodL.yN, .static CodL.yN,
  .code Cmp3.yN Cmp3.yB 6 (some (.array .byte)), .initialized U16, .arrayClass .byte, .methodLink U16 115 Cmp5.yN, .static Cmp5.yN, .code Cmp5.yN Cmp5.yB 7 (some .int), .code CodL.yN CodL.yB 2 (some .byte)]
theorem tab_of {a : Array Value} {s : State} (h : ∀ w ∈ words, w.before a s = true) : New1.tab.before a s = true := by
  have h5 : Cmp5.tab.before a s = true := unparts (wk h (.code Cmp5.yN Cmp5.yB 7 (some .int))) (wks h (.initialized Cmp5.yN.cls :: Cmp5.site))
  have hc : CodL.tab.before a s = true := unparts (wk h (.code CodL.yN CodL.yB 2 (some .byte))) (wks h (.initialized CodL.yN.cls :: CodL.site))
  have q5 : ∀ w ∈ Cmp5.tab :: words, w.before a s = true := fun w hw => (List.mem_cons.mp hw).elim (fun e => e ▸ h5) (h w)
  have h3 : Cmp3.tab.before a s = true := unparts (wk q5 (.code Cmp3.yN Cmp3.yB 6 (some (.array .byte)))) (wks q5 (.initialized Cmp3.yN.cls :: Cmp3.site))
  have q3 : ∀ w ∈ Cmp3.tab :: CodL.tab :: words, w.before a s = true := fun w hw => (List.mem_cons.mp hw).elim (fun e => e ▸ h3) fun hw => (List.mem_cons.mp hw).elim (fun e => e ▸ hc) (h w)
  have h4 : New4.tab.before a s = true := unparts (wk q3 (.code New4.yN New4.yB 6 none)) (wks q3 (.initialized New4.yN.cls :: New4.site))
  have q4 : ∀ w ∈ New4.tab :: words, w.before a s = true := fun w hw => (List.mem_cons.mp hw).elim (fun e => e ▸ h4) (h w)
  exact unparts (wk q4 (.code New1.yN New1.yB 2 none)) (wks q4 (.initialized New1.yN.cls :: New1.site))
/-- the words ride from the start Z to the walk's own state -/
theorem moved {Z s : State} {a0 args : Array Value} (hZ : Z.Warmed39 s.vm) (hw : ∀ d ∈ words, d.before a0 Z = true) : ∀ d ∈ words, d.before args s = true := fun d hd => by
  have q := hw d hd
  have t : ∀ d ∈ words, d = .arrayClass .byte ∨ (d.onTables && d.keepsFace) = true := by decide +kernel
  rcases t d hd with rfl | t
  · exact RoadKit.mvA hZ q
  · exact RoadKit.mv hZ q t
/-- WHAT COMES BACK, over the tables of the start Z: h the heap at the call, h' behind it -/
def Q (Z : State) (x : Addr) (A : Cell) (h : Heap) (v : Option Value) (h' : Heap) (L : List Loc) : Prop := v = none ∧ (∀ y ∈ L, y.base = x) ∧ RoadKit.Keep h h' [x] ∧ h'.size = h.size + 1 ∧ RoadKit.Exa Z h' x ST ∧ RoadKit.Fld Z h' x ST "value" "[B" (.ref h.size) ∧ RoadKit.Fld Z h' x ST "coder" "B" (.int 0) ∧
  (∃ V : Cell, RoadKit.Arr Z h' h.size V .byte ∧ V.vm = .none ∧ Z.vm.findClass "[B" = some V.cls ∧ V.slots.size = A.slots.size ∧ ∀ j, j < A.slots.size → V.slots[j]? = some (.int (lo8 (cv A j)))) ∧
  ∀ (O n d : String) (w : Value), RoadKit.Fld Z h x O n d w → RoadKit.slotOf Z O n d ≠ RoadKit.slotOf Z ST "value" "[B" → RoadKit.slotOf Z O n d ≠ RoadKit.slotOf Z ST "coder" "B" → RoadKit.Fld Z h' x O n d w
/-- **new String(chars) AT A CALL, IN THE ROAD'S FORM**: for specialBack behind newO: x the fresh String, b the char[] with the cell A -/
theorem back {p : Program} {l : Launch} {e : Env} {R : Room} {s : State} {args : Array Value} {below : List Frame} {len W : Nat} {Z : State} {a0 : Array Value} {h : Heap} (hZ : Z.Warmed39 s.vm) (hw : ∀ d ∈ words, d.before a0 Z = true) {kI : Nat} (wi : (Jvm.Cond.instantiable ST kI).before a0 Z = true)
    {x b : Addr} {A : Cell} {z : Int32} {v0 c0 : Value} (E : RoadKit.Exa Z h x ST) (V : RoadKit.Fld Z h x ST "value" "[B" v0) (C : RoadKit.Fld Z h x ST "coder" "B" c0) (K : RoadKit.Arr Z h b A .char) (hty : Typed .char A) (S : RoadKit.Sta Z h ST "COMPACT_STRINGS" "Z" (.int z)) (hz : ¬ z = 0)
    (l0 : 0 < A.slots.size) (l2 : A.slots.size ≤ 536870912) (hp : ∀ i, i < A.slots.size → ¬ 255 < cv A i) (hfr : 4 ≤ R.frames) (hlo : W + 65 ≤ R.locals) :
    Back l R p e below s args New1.yN len W (fun P a => a = #[.ref x, .ref b] ∧ P.U.heap = h ∧ P.cells + 1 ≤ R.cells ∧ P.slots + A.slots.size ≤ R.slots)
      (fun P _ v B => ∃ L, Q Z x A h v B.U.heap L ∧ B.locs = P.locs ++ L ∧ B.cells = P.cells + 1 ∧ B.slots = P.slots + A.slots.size) := by
  intro m meth c P g ig mk a X hg hsize hdg hW hn hp'
  obtain ⟨rfl, rfl, r1, r2⟩ := hp'
  have al : Z.vm.Alike P.U.vm := hZ.alike.trans X.warmed.alike
  obtain ⟨D, cfV, kV, iV, fV, hD, gV, stV, knV, obV, asV, slV⟩ := id V
  obtain ⟨D', cfC, kC, iC, fC, hD', gC, stC, -, -, asC, slC⟩ := id C
  cases hD.symm.trans hD'
  obtain ⟨D2, kD, e1, e2, e3, e4, e5⟩ := id E
  cases hD.symm.trans e1
  obtain ⟨c2, k2, i1, i2, i3, -⟩ := Cond.instantiable_spec wi
  cases e2.symm.trans i1
  cases e3.symm.trans i2
  obtain ⟨kU, u1, u2⟩ := al.2.2 _ _ e3
  have hB : Blank ST x D P.U := ⟨hD, ⟨knV, fun q hq => by rw [hq] at obV; cases obV⟩, by rw [al.findClass]; exact e2, kU, u1, by rw [u2]; exact i3, by rw [u2]; exact e5 i3⟩
  have F1 : Found ST "value" "[B" fV P.U := ⟨SBG.found_only al ⟨cfV, kV, iV, gV⟩, stV⟩
  have F2 : Found ST "coder" "B" fC P.U := ⟨SBG.found_only al ⟨cfC, kC, iC, gC⟩, stC⟩
  have hA : Ch b A P.U := ⟨⟨K.1, State.isArrayOf_alike al K.2.1, K.2.2, by omega⟩, hty⟩
  have hS : StaticIs P.U ST "COMPACT_STRINGS" "Z" (.int z) := by
    obtain ⟨cfS, iS, kS, fS, st, cS, t1, t2, t3, t4, t5, t6, t7⟩ := S
    exact StaticIs.there (s := { Z with heap := P.U.heap }) ⟨cfS, iS, kS, fS, st, cS, t1, t2, t3, t4, t5, (fun q => by rw [q] at t6; cases t6), t7⟩ al rfl
  obtain ⟨v, B, X', ⟨⟨hv, E', V', q1, q2, q3, q4, q5, q6, q7, q8, q9, q10, q11⟩, hl, hc, hs⟩, st⟩ := New1.pays x D fV fC b A z (tab_of (moved hZ hw)) hfr hlo m meth c P g ig mk _ X hg hsize hdg hW hn ⟨r1, r2, rfl, hB, F1, F2, hA, hS, hz, l0, l2, hp⟩
  have al' : Z.vm.Alike B.U.vm := hZ.alike.trans X'.warmed.alike
  have hsz : E'.slots.size = D.slots.size := by
    obtain ⟨-, -, -, kB, w1, w2, w3⟩ := q1
    obtain ⟨kB', y1, y2⟩ := al'.2.2 _ _ e3
    rw [q2.2.1] at w1
    cases w1.symm.trans y1
    rw [w3, e5 i3, y2]
  refine ⟨v, B, X', ⟨_, ⟨hv, ?_, ⟨by omega, fun y cy hy hn' => q10 y cy (by simpa using hn') hy, fun y cy hy => ?_⟩, q11, ⟨E', _, q1.1, by rw [q2.2.1]; exact e2, by rw [q2.2.1]; exact e3, by rw [q2.1]; exact obV, fun _ => by rw [hsz]; exact e5 i3⟩,
    ⟨E', cfV, kV, iV, fV, q1.1, gV, stV, by rw [q2.1]; exact knV, by rw [q2.1]; exact obV, by rw [q2.2.1]; exact asV, q3⟩, ⟨E', cfC, kC, iC, fC, q1.1, gC, stC, by rw [q2.1]; exact knV, by rw [q2.1]; exact obV, by rw [q2.2.1]; exact asC, q4⟩,
    ⟨V', ⟨q5.1, State.isArrayOf_alike al'.symm q5.2.1, q5.2.2.1⟩, q6, by rw [← al'.findClass]; exact q7, q8, fun j hj => by have := q9 j hj; rwa [Nat.zero_add] at this⟩, fun O n d w F n1 n2 => ?_⟩, hl, hc, hs⟩, st⟩
  · intro y hy
    simp only [List.mem_cons, List.not_mem_nil, or_false] at hy
    rcases hy with rfl | rfl <;> rfl
  · by_cases q : y = x
    · subst q
      cases hD.symm.trans hy
      exact ⟨E', q1.1, q2.2.1, q2.1, hsz⟩
    · exact ⟨cy, q10 y cy q hy, rfl, rfl, rfl⟩
  · obtain ⟨D3, cf, k, i, f, g1, g2, g3, g4, g5, g6, g7⟩ := F
    cases hD.symm.trans g1
    simp only [RoadKit.slotOf, g2, gV, gC, Option.map_some, Option.getD_some] at n1 n2
    exact ⟨E', cf, k, i, f, q1.1, g2, g3, by rw [q2.1]; exact g4, by rw [q2.1]; exact g5, by rw [q2.2.1]; exact g6, by rw [q2.2.2 f.slot (by simp [n1, n2])]; exact g7⟩
end StrChars.Road
namespace StrChars.Road
open Jvm Sem ClassFile Op Lib Jvm.Stand Jvm.Free Jvm.Free.XT
/-- WHAT COMES BACK, the byte[] as a list of values -/
def QA (Z : State) (x : Addr) (zn : Int32) (cs : List Int32) (h : Heap) (v : Option Value) (h' : Heap) (L : List Loc) : Prop := v = none ∧ (∀ y ∈ L, y.base = x) ∧ RoadKit.Keep h h' [x] ∧ h'.size = h.size + 1 ∧ RoadKit.Exa Z h' x ST ∧ RoadKit.Fld Z h' x ST "value" "[B" (.ref h.size) ∧ RoadKit.Fld Z h' x ST "coder" "B" (.int 0) ∧
  (∃ kb, Z.vm.findClass "[B" = some kb ∧ RoadKit.Arv Z h' h.size kb .byte zn (cs.map fun c => .int (lo8 c)) (.int 0)) ∧
  ∀ (O n d : String) (w : Value), RoadKit.Fld Z h x O n d w → RoadKit.slotOf Z O n d ≠ RoadKit.slotOf Z ST "value" "[B" → RoadKit.slotOf Z O n d ≠ RoadKit.slotOf Z ST "coder" "B" → RoadKit.Fld Z h' x O n d w
/-- **new String(chars) AT A CALL, THE ARRAYS AS LISTS**: the char[] at b holds cs, not empty, no char above 255 -/
theorem backArv {p : Program} {l : Launch} {e : Env} {R : Room} {s : State} {args : Array Value} {below : List Frame} {len W : Nat} {Z : State} {a0 : Array Value} {h : Heap} (hZ : Z.Warmed39 s.vm) (hw : ∀ d ∈ words, d.before a0 Z = true) {kI : Nat} (wi : (Jvm.Cond.instantiable ST kI).before a0 Z = true)
    {x b : Addr} {k : ClassId} {zn z : Int32} {cs : List Int32} {dv v0 c0 : Value} (E : RoadKit.Exa Z h x ST) (V : RoadKit.Fld Z h x ST "value" "[B" v0) (C : RoadKit.Fld Z h x ST "coder" "B" c0) (K : RoadKit.Arv Z h b k .char zn (cs.map Value.int) dv) (S : RoadKit.Sta Z h ST "COMPACT_STRINGS" "Z" (.int z)) (hz : ¬ z = 0)
    (hlen : zn.toNatClampNeg = cs.length) (h0 : 0 < cs.length) (hbig : cs.length ≤ 536870912) (hall : ∀ c ∈ cs, ¬ 255 < c) (hfr : 4 ≤ R.frames) (hlo : W + 65 ≤ R.locals) :
    Back l R p e below s args New1.yN len W (fun P a => a = #[.ref x, .ref b] ∧ P.U.heap = h ∧ P.cells + 1 ≤ R.cells ∧ P.slots + cs.length ≤ R.slots)
      (fun P _ v B => ∃ L, QA Z x zn cs h v B.U.heap L ∧ B.locs = P.locs ++ L ∧ B.cells = P.cells + 1 ∧ B.slots = P.slots + cs.length) := by
  obtain ⟨A, K1, K2, K3, K4, K5, K6⟩ := K
  have e : A.slots.size = cs.length := K3.trans hlen
  have hat : ∀ (i : Nat) (hi : i < cs.length), A.slots[i]? = some (.int cs[i]) := fun i hi => by rw [K5 i (by omega)]; simp [List.getD_eq_getElem?_getD, hi]
  have hcv : ∀ (i : Nat) (hi : i < cs.length), cv A i = cs[i] := fun i hi => by unfold cv; rw [hat i hi]
  have hty : Typed .char A := fun i v hv => by
    have hi : i < A.slots.size := (Array.getElem?_eq_some_iff.mp hv).1
    have q := K5 i hi
    rw [hv] at q
    rw [Option.some.inj q]
    exact K6 i hi
  refine Back.mono (back hZ hw wi E V C K1 hty S hz (by omega) (by omega) (fun i hi => by rw [hcv i (by omega)]; exact hall _ (List.getElem_mem _)) hfr hlo) (fun P a hp => ⟨hp.1, hp.2.1, hp.2.2.1, by rw [e]; exact hp.2.2.2⟩) (fun P a v B hp hq => ?_)
  obtain ⟨L, ⟨q1, q2, q3, q4, q5, q6, q7, ⟨V', v1, v2, v3, v4, v5⟩, q9⟩, hl, hc, hs⟩ := hq
  refine ⟨L, ⟨q1, q2, q3, q4, q5, q6, q7, ⟨V'.cls, v3, V', v1, rfl, by rw [v4, e, hlen], K4, fun i hi => ?_, fun i hi => ?_⟩, q9⟩, hl, hc, by rw [hs, e]⟩
  · have hi' : i < cs.length := by omega
    rw [v5 i (by omega), hcv i hi']; simp [List.getD_eq_getElem?_getD, hi']
  · have hi' : i < cs.length := by omega
    simp only [List.getD_eq_getElem?_getD, List.getElem?_map, List.getElem?_eq_getElem hi', Option.map_some, Option.getD_some]
    exact fits_lo8 _
end StrChars.Road
namespace StrChars.Road
open Jvm Sem ClassFile Op Lib Jvm.Stand Jvm.Free Jvm.Free.XT
/-- WHAT COMES BACK, in the writer's own shape -/
def QV (Z : State) (x : Addr) (N : Int32) (bs : List Int32) (h : Heap) (n0 : Nat) (v : Option Value) (h' : Heap) (L : List Loc) : Prop := v = none ∧ RoadKit.Fr n0 L ∧ RoadKit.Keep h h' [x] ∧ RoadKit.Exa Z h' x ST ∧ RoadKit.Fld Z h' x ST "coder" "B" (.int 0) ∧
  ∃ (t : Addr) (kb : ClassId), n0 ≤ t ∧ h.size ≤ t ∧ ¬ t = x ∧ RoadKit.Fld Z h' x ST "value" "[B" (.ref t) ∧ RoadKit.Arv Z h' t kb .byte N (bs.map Value.int) (.int 0)
/-- **new String(chars) AT A CALL, FOR THE WRITER**: a char[] of n known ints, each 0 to 255 -/
theorem backV {p : Program} {l : Launch} {e : Env} {R : Room} {s : State} {args : Array Value} {below : List Frame} {len W : Nat} {Z : State} {a0 : Array Value} {h : Heap} (hZ : Z.Warmed39 s.vm) (hw : ∀ d ∈ words, d.before a0 Z = true) {kI : Nat} (wi : (Jvm.Cond.instantiable ST kI).before a0 Z = true)
    {x b : Addr} {kC : ClassId} {cs bs : List Int32} {d v0 c0 : Value} {z N : Int32} {n n0 : Nat} (hx0 : n0 ≤ x) (hh0 : n0 ≤ h.size) (E : RoadKit.Exa Z h x ST) (V : RoadKit.Fld Z h x ST "value" "[B" v0) (C : RoadKit.Fld Z h x ST "coder" "B" c0) (K : RoadKit.Arv Z h b kC .char N (cs.map Value.int) d) (S : RoadKit.Sta Z h ST "COMPACT_STRINGS" "Z" (.int z)) (hz : ¬ z = 0)
    (hn : cs.length = n) (hN : N = Int32.ofNat n) (l0 : 0 < n) (l2 : n ≤ 4000) (hp : ∀ c ∈ cs, ¬ c < 0 ∧ ¬ (255 : Int32) < c) (hb : bs = cs.map (fun c => c.toInt8.toInt32)) (hfr : 4 ≤ R.frames) (hlo : W + 65 ≤ R.locals) :
    Back l R p e below s args (⟨"java/lang/String", "<init>", "([C)V"⟩ : MethodName) len W (fun P a => a = #[.ref x, .ref b] ∧ P.U.heap = h ∧ P.cells + 1 ≤ R.cells ∧ P.slots + n ≤ R.slots)
      (fun P _ v B => ∃ L, QV Z x N bs h n0 v B.U.heap L ∧ B.locs = P.locs ++ L ∧ B.cells = P.cells + 1 ∧ B.slots = P.slots + n) := by
  subst hn hN hb
  refine Back.mono (backArv hZ hw wi E V C K S hz (n32 (by omega)) l0 (by omega) (fun c hc => (hp c hc).2) hfr hlo) (fun P a hp => hp) (fun P a v B hp hq => ?_)
  obtain ⟨L, ⟨q1, q2, q3, q4, q5, q6, q7, ⟨kb, v1, v2⟩, q9⟩, hl, hc, hs⟩ := hq
  exact ⟨L, ⟨q1, fun y hy => by rw [q2 y hy]; exact hx0, q3, q5, q7, h.size, kb, hh0, Nat.le_refl _, Nat.ne_of_gt E.lt, q6, by rw [List.map_map]; exact v2⟩, hl, hc, hs⟩
end StrChars.Road
namespace StrChars
open Jvm Sem ClassFile Op Lib Jvm.Stand Jvm.Free.XT Jvm.Free.ALB Jvm.Free.JM Jvm.Free
open Jvm.Lib.Cold (StaticIs)
def hi8 (x : Int32) : Int32 := lo8 (x >>> ((8 : Int32) &&& 31))
/-- what StringUTF16.getChar makes of two bytes -/
def pairCh (u v : Int32) : Int32 := (((u &&& 255) <<< ((0 : Int32) &&& 31)) ||| ((v &&& 255) <<< ((8 : Int32) &&& 31))).toUInt32.toUInt16.toUInt32.toInt32
theorem shr0 (c : Int32) : c >>> ((0 : Int32) &&& 31) = c := by
  have e : ((0 : Int32) &&& 31) = 0 := by decide
  rw [e]
  apply Int32.toBitVec_inj.mp
  rw [Int32.toBitVec_shiftRight]
  have e1 : ((0 : Int32).toBitVec.smod 32) = 0#32 := by decide
  rw [e1, BitVec.sshiftRight_eq']
  exact BitVec.sshiftRight_zero
theorem lo8_and (x : Int32) : (lo8 x &&& 255).toBitVec.toNat = x.toBitVec.toNat % 256 := by
  have h : (lo8 x).toBitVec = (x.toBitVec.signExtend 8).signExtend 32 := by rw [lo8, Int8.toBitVec_toInt32, Int32.toBitVec_toInt8]
  rw [Int32.toBitVec_and, BitVec.toNat_and, h]
  have e : ((x.toBitVec.signExtend 8).signExtend 32).toNat % 256 = x.toBitVec.toNat % 256 := by
    rw [BitVec.toNat_signExtend]
    have hlt := x.toBitVec.isLt
    simp only [BitVec.toNat_setWidth, BitVec.toNat_signExtend]
    split <;> split <;> omega
  rw [← e]
  exact Nat.and_two_pow_sub_one_eq_mod _ 8
theorem pair_says {c : Int32} (h0 : ¬ c < 0) (h1 : ¬ 65535 < c) : pairCh (lo8 c) (hi8 c) = c := by
  rw [Int32.lt_iff_toInt_lt] at h0 h1
  have e0 : (0 : Int32).toInt = 0 := rfl
  have e1 : (65535 : Int32).toInt = 65535 := rfl
  have hc : c.toInt = c.toBitVec.toNat := by
    have := c.toBitVec.isLt
    have e : c.toInt = c.toBitVec.toInt := rfl
    rw [e] at h0 h1
    rw [e]
    rw [BitVec.toInt_eq_toNat_cond] at h0 h1 ⊢
    split at h0 <;> split <;> omega
  have hn : c.toBitVec.toNat < 65536 := by omega
  have a1 := lo8_and c
  have a2 : (hi8 c &&& 255).toBitVec.toNat = c.toBitVec.toNat / 256 := by
    rw [hi8, lo8_and]
    have e : ((8 : Int32) &&& 31) = 8 := by decide
    rw [e, Int32.toBitVec_shiftRight]
    have e2 : ((8 : Int32).toBitVec.smod 32) = 8#32 := by decide
    rw [e2, BitVec.sshiftRight_eq', BitVec.toNat_sshiftRight_of_msb_false (by rw [BitVec.msb_eq_false_iff_two_mul_lt]; omega)]
    show c.toBitVec.toNat >>> 8 % 256 = _
    rw [Nat.shiftRight_eq_div_pow]
    omega
  unfold pairCh
  apply Int32.toBitVec_inj.mp
  apply BitVec.eq_of_toNat_eq
  have f0 : ((0 : Int32) &&& 31) = 0 := by decide
  have f8 : ((8 : Int32) &&& 31) = 8 := by decide
  rw [f0, f8]
  have g : (((lo8 c &&& 255) <<< (0 : Int32)) ||| ((hi8 c &&& 255) <<< (8 : Int32))).toBitVec.toNat = c.toBitVec.toNat := by
    rw [Int32.toBitVec_or, Int32.toBitVec_shiftLeft, Int32.toBitVec_shiftLeft]
    have s0 : ((0 : Int32).toBitVec.smod 32) = 0#32 := by decide
    have s8 : ((8 : Int32).toBitVec.smod 32) = 8#32 := by decide
    rw [s0, s8, BitVec.toNat_or]
    simp only [BitVec.shiftLeft_eq', BitVec.toNat_shiftLeft, a1, a2]
    show (c.toBitVec.toNat % 256) <<< 0 % 2 ^ 32 ||| (c.toBitVec.toNat / 256) <<< 8 % 2 ^ 32 = _
    rw [Nat.shiftLeft_zero, Nat.mod_eq_of_lt (show c.toBitVec.toNat % 256 < 2 ^ 32 by omega), Nat.mod_eq_of_lt (show (c.toBitVec.toNat / 256) <<< 8 < 2 ^ 32 by rw [Nat.shiftLeft_eq]; omega), Nat.or_comm, ← Nat.shiftLeft_add_eq_or_of_lt (by omega), Nat.shiftLeft_eq]
    omega
  show BitVec.toNat (((((lo8 c &&& 255) <<< (0 : Int32)) ||| ((hi8 c &&& 255) <<< (8 : Int32))).toBitVec.setWidth 16).setWidth 32) = _
  rw [BitVec.toNat_setWidth, BitVec.toNat_setWidth, g]
  omega
end StrChars
namespace StrChars
open Jvm Sem ClassFile Op Lib Jvm.Stand Jvm.Free.XT Jvm.Free.ALB Jvm.Free.JM Jvm.Free
open Jvm.Lib.Cold (StaticIs)
theorem shr1 {n : Nat} (h : 2 * n < 2 ^ 31) : Int32.ofNat (2 * n) >>> ((1 : Int32) &&& 31) = Int32.ofNat n := by
  have e : ((1 : Int32) &&& 31) = 1 := by decide
  rw [e]
  apply Int32.toBitVec_inj.mp
  rw [Int32.toBitVec_shiftRight]
  have e1 : ((1 : Int32).toBitVec.smod 32) = 1#32 := by decide
  have hm : (BitVec.ofNat 32 (2 * n)).toNat = 2 * n := by rw [BitVec.toNat_ofNat, Nat.mod_eq_of_lt (by omega)]
  rw [e1, BitVec.sshiftRight_eq']
  apply BitVec.eq_of_toNat_eq
  show ((BitVec.ofNat 32 (2 * n)).sshiftRight 1).toNat = (BitVec.ofNat 32 n).toNat
  rw [BitVec.toNat_sshiftRight_of_msb_false (by rw [BitVec.msb_eq_false_iff_two_mul_lt, hm]; omega), hm, BitVec.toNat_ofNat, Nat.shiftRight_eq_div_pow]
  omega
/-- charAt's cast of a byte read back -/
def chr8 (u : Int32) : Int32 := (u &&& 255).toUInt32.toUInt16.toUInt32.toInt32
theorem chr8_lo8 {c : Int32} (h0 : ¬ c < 0) (h1 : ¬ 255 < c) : chr8 (lo8 c) = c := by
  have t : ∀ k : Fin 256, (Int32.ofNat k.val).toUInt32.toUInt16.toUInt32.toInt32 = Int32.ofNat k.val := by decide +kernel
  unfold chr8
  rw [lo8_mask h0 h1]
  rw [Int32.lt_iff_toInt_lt] at h0 h1
  have e0 : (0 : Int32).toInt = 0 := rfl
  have e1 : (255 : Int32).toInt = 255 := rfl
  obtain ⟨k, hk⟩ : ∃ k : Nat, c.toInt = k := ⟨c.toInt.toNat, by omega⟩
  have hx : c = Int32.ofNat k := Int32.toInt_inj.mp (by rw [hk, Int32.toInt_ofNat_small (by omega)])
  rw [hx]
  exact t ⟨k, by omega⟩
theorem narrow_ch {c : Int32} (h0 : ¬ c < 0) (h1 : ¬ 65535 < c) : narrow .char (.int c) = .int c := by
  have q : narrow .char (.int (pairCh (lo8 c) (hi8 c))) = .int (pairCh (lo8 c) (hi8 c)) := narrow_c _
  rwa [pair_says h0 h1] at q
/-- the array's cell V codes the n chars f 0 .. f (n - 1) by the coder cd, as the JDK does: coder 1 just where some char is above 255 -/
def Cod (cd : Int32) (n : Nat) (f : Nat → Int32) (V : Cell) : Prop := (cd = 0 ∧ V.slots.size = n ∧ ∀ j, j < n → V.slots[j]? = some (.int (lo8 (f j))) ∧ ¬ 255 < f j) ∨ (cd = 1 ∧ V.slots.size = 2 * n ∧ (∀ j, j < n → V.slots[2 * j]? = some (.int (lo8 (f j))) ∧ V.slots[2 * j + 1]? = some (.int (hi8 (f j)))) ∧ ∃ j, j < n ∧ 255 < f j)
theorem Cod.cd {cd : Int32} {n : Nat} {f : Nat → Int32} {V : Cell} (h : Cod cd n f V) : cd = 0 ∨ cd = 1 := h.imp (fun q => q.1) fun q => q.1
theorem Cod.len {cd : Int32} {n : Nat} {f : Nat → Int32} {V : Cell} (h : Cod cd n f V) (hs : V.slots.size < 2 ^ 31) : Int32.ofNat V.slots.size >>> (cd &&& 31) = Int32.ofNat n := by
  rcases h with ⟨rfl, h, -⟩ | ⟨rfl, h, -⟩
  · rw [shr0, h]
  · rw [h, shr1 (by omega)]
/-- **x is a String of the n chars f 0 .. f (n - 1)**, Latin-1 or UTF-16; its array at t has the cell V -/
def Txt (x t : Addr) (V : Cell) (cd : Int32) (n : Nat) (f : Nat → Int32) (U : State) : Prop := Exact "java/lang/String" x U ∧ Has x "java/lang/String" "value" "[B" (.ref t) U ∧ Has x "java/lang/String" "coder" "B" (.int cd) U ∧ XT.Arr .byte t V U ∧ Cod cd n f V ∧ ∀ j, j < n → ¬ f j < 0 ∧ ¬ 65535 < f j
theorem Txt.mv {x t : Addr} {V : Cell} {cd : Int32} {n : Nat} {f : Nat → Int32} {U U' : State} (h : Txt x t V cd n f U) (hal : U.vm.Alike U'.vm) (hh : U'.heap = U.heap) : Txt x t V cd n f U' := ⟨h.1.mv hal hh, h.2.1.mv hal hh, h.2.2.1.mv hal hh, h.2.2.2.1.mv hal hh, h.2.2.2.2⟩
namespace Cdr
def yN : MethodName := ⟨"java/lang/String", "coder", "()B"⟩
abbrev yB : ByteArray := jdk_42_method_152_code
theorem d0 : decode yB 0 = .ok (.getstatic 38, 3) := by decide +kernel
theorem d3 : decode yB 3 = .ok (.ifCond (.eq) 10, 3) := by decide +kernel
theorem d6 : decode yB 6 = .ok (.aload_n 0, 1) := by decide +kernel
theorem d7 : decode yB 7 = .ok (.getfield 15, 3) := by decide +kernel
theorem d10 : decode yB 10 = .ok (.goto 4, 3) := by decide +kernel
theorem d14 : decode yB 14 = .ok (.ireturn, 1) := by decide +kernel
def site : List Cond := [.fieldLink "java/lang/String" 38 "java/lang/String" "COMPACT_STRINGS" "Z", .fieldLink "java/lang/String" 15 "java/lang/String" "coder" "B"]
def tab : Cond := tabOf yN yB 1 (some .byte) site
def P (x : Addr) (cd z : Int32) (args : Array Value) (s : State) : Prop := args = #[.ref x] ∧ Has x "java/lang/String" "coder" "B" (.int cd) s ∧ (cd = 0 ∨ cd = 1) ∧ StaticIs s "java/lang/String" "COMPACT_STRINGS" "Z" (.int z) ∧ ¬ z = 0
def E (cd : Int32) (r : Option Value) (s u : State) : Prop := XT.PureE (some (.int cd)) r s u
theorem law (l : Launch) (x : Addr) (cd z : Int32) : Law l yN 1 0 0 0 yB 1 (some .byte) site (P x cd z) (E cd) [] 0 0 := by
  refine Law.of_walk (plainFor_of_name (by decide +kernel)) (by decide +kernel) (by decide +kernel) (by decide) (fun _ _ h => by rw [h.1]; rfl) (fun _ U U' hal hh h => ⟨h.1, h.2.1.mv hal hh, h.2.2.1, h.2.2.2.1.there hal hh, h.2.2.2.2⟩) (fun r U U' V V' h1 hal h2 h => XT.PureE.mv r U U' V V' h1 hal h2 h) ?_
  intro p e s m args below meth c s₁ X0 hexec hbytes hml hret hlk hnm hown hh0 W hP
  obtain ⟨rfl, hx, hc, s1, hz⟩ := hP
  have c1 : Steps p.tables e below (s₁.setTop (entryFrame m #[.ref x] 1)) (s₁.setTop (mkF m 0 #[.val (.ref x)] [])) := entry rfl
  obtain ⟨T2, X2, q2, st2⟩ := X0.sget hexec hown (wk W (.fieldLink "java/lang/String" 38 "java/lang/String" "COMPACT_STRINGS" "Z")) s1 (fun _ _ h => by rw [hh0]; exact h) (g := (mkF m 0 #[.val (.ref x)] [])) rfl (hb hbytes d0)
  have hh2 := q2.trans hh0
  have c3 : Steps p.tables e below (s₁.setTop (entryFrame m #[.ref x] 1)) (T2.setTop (mkF m 7 #[.val (.ref x)] [.ref x])) := (c1.trans (st2 _ (Steps.refl _))).trans (by
    refine XS.ifNo X2.here hexec rfl (hb hbytes d3) rfl (i0_eq_f hz) ?_
    refine XS.aloadN X2.here hexec rfl (hb hbytes d6) rfl rfl ?_
    exact Steps.refl _)
  obtain ⟨T4, X4, q4, st4⟩ := X2.hget hexec hown (wk W (.fieldLink "java/lang/String" 15 "java/lang/String" "coder" "B")) (hx.mv X2.warmed.alike hh2) (g := (mkF m 7 #[.val (.ref x)] [.ref x])) rfl (rest := []) rfl (hb hbytes d7)
  have c5 : Steps p.tables e below (s₁.setTop (entryFrame m #[.ref x] 1)) (T4.setTop (mkF m 14 #[.val (.ref x)] [.int cd])) := (c3.trans (st4 _ (Steps.refl _))).trans (by
    refine XS.goto X4.here hexec rfl (pc0 := 10) rfl (hb hbytes d10) (by decide) rfl ?_
    exact Steps.refl _)
  exact ⟨T4, some (.int cd), _, _, _, X4, rfl, rfl, rfl, (fun h => by cases h), ⟨rfl, q4.trans hh2⟩, fun fs hl => c5.trans (X4.ireturnOut hexec hret (by rcases hc with rfl | rfl <;> rfl) (Or.inr (Or.inr (Or.inl rfl))) (hb hbytes d14) hl)⟩
end Cdr
namespace Len
def yN : MethodName := ⟨"java/lang/String", "length", "()I"⟩
abbrev yB : ByteArray := jdk_42_method_54_code
theorem d0 : decode yB 0 = .ok (.aload_n 0, 1) := by decide +kernel
theorem d1 : decode yB 1 = .ok (.getfield 9, 3) := by decide +kernel
theorem d4 : decode yB 4 = .ok (.arraylength, 1) := by decide +kernel
theorem d5 : decode yB 5 = .ok (.aload_n 0, 1) := by decide +kernel
theorem d6 : decode yB 6 = .ok (.invokevirtual 335, 3) := by decide +kernel
theorem d9 : decode yB 9 = .ok (.ishr, 1) := by decide +kernel
theorem d10 : decode yB 10 = .ok (.ireturn, 1) := by decide +kernel
def site : List Cond := [.fieldLink "java/lang/String" 9 "java/lang/String" "value" "[B", Cdr.tab] ++ virtW "java/lang/String" 335 "java/lang/String" Cdr.yN Cdr.yN
def tab : Cond := tabOf yN yB 1 (some .int) site
def P (x t : Addr) (V : Cell) (cd : Int32) (n : Nat) (f : Nat → Int32) (z : Int32) (args : Array Value) (s : State) : Prop := args = #[.ref x] ∧ Txt x t V cd n f s ∧ StaticIs s "java/lang/String" "COMPACT_STRINGS" "Z" (.int z) ∧ ¬ z = 0
def E (n : Nat) (r : Option Value) (s u : State) : Prop := XT.PureE (some (.int (Int32.ofNat n))) r s u
/-- length() of a String of n chars, in either coding -/
theorem law (l : Launch) (x t : Addr) (V : Cell) (cd : Int32) (n : Nat) (f : Nat → Int32) (z : Int32) : Law l yN 1 0 1 13 yB 1 (some .int) site (P x t V cd n f z) (E n) [] 0 0 := by
  refine Law.of_walk (plainFor_of_name (by decide +kernel)) (by decide +kernel) (by decide +kernel) (by decide) (fun _ _ h => by rw [h.1]; rfl) (fun _ U U' hal hh h => ⟨h.1, h.2.1.mv hal hh, h.2.2.1.there hal hh, h.2.2.2⟩) (fun r U U' V V' h1 hal h2 h => XT.PureE.mv r U U' V V' h1 hal h2 h) ?_
  intro p e s m args below meth c s₁ X0 hexec hbytes hml hret hlk hnm hown hh0 W hP
  obtain ⟨rfl, hx, s1, hz⟩ := hP
  have v31 := hx.2.2.2.1.2.2.2
  have c1 : Steps p.tables e below (s₁.setTop (entryFrame m #[.ref x] 1)) (s₁.setTop (mkF m 1 #[.val (.ref x)] [.ref x])) := Steps.trans (entry rfl) (by
    show Steps p.tables e below (s₁.setTop (mkF m 0 #[.val (.ref x)] [])) _
    refine XS.aloadN X0.here hexec rfl (hb hbytes d0) rfl rfl ?_
    exact Steps.refl _)
  obtain ⟨T2, X2, q2, st2⟩ := X0.hget hexec hown (wk W (.fieldLink "java/lang/String" 9 "java/lang/String" "value" "[B")) (hx.mv X0.warmed.alike hh0).2.1 (g := (mkF m 1 #[.val (.ref x)] [.ref x])) rfl (rest := []) rfl (hb hbytes d1)
  have hh2 := q2.trans hh0
  have hx2 := hx.mv X2.warmed.alike hh2
  have c3 : Steps p.tables e below (s₁.setTop (entryFrame m #[.ref x] 1)) (T2.setTop (mkF m 6 #[.val (.ref x)] [.ref x, .int (Int32.ofNat V.slots.size)])) := (c1.trans (st2 _ (Steps.refl _))).trans (by
    refine X2.alen hexec hx2.2.2.2.1 rfl rfl (hb hbytes d4) ?_
    refine XS.aloadN X2.here hexec rfl (hb hbytes d5) rfl rfl ?_
    exact Steps.refl _)
  obtain ⟨v4, T4, X4, E4, g4⟩ := X2.callV hexec (Cdr.law l x cd z) hown (wks W (virtW "java/lang/String" 335 "java/lang/String" Cdr.yN Cdr.yN)) rfl (by decide) (wk W Cdr.tab) (W := 1) (Nat.le_of_ble_eq_true rfl) (Nat.le_of_ble_eq_true rfl) (Nat.le_refl _) (Nat.le_refl _) (hx2.1.fc X2.warmed.alike) hx2.1.is (g := (mkF m 6 #[.val (.ref x)] [.ref x, .int (Int32.ofNat V.slots.size)])) rfl (by rw [hml]; rfl) c3 (argsL := []) (rest := [.int (Int32.ofNat V.slots.size)]) rfl rfl (by show 2 * 0 + (1 + 0) ≤ _; decide) (hb hbytes d6) (⟨rfl, hx2.2.2.1, hx.2.2.2.2.1.cd, s1.there X2.warmed.alike hh2, hz⟩)
  obtain ⟨rfl, q4⟩ := E4
  have c5 : Steps p.tables e below (s₁.setTop (entryFrame m #[.ref x] 1)) (T4.setTop (mkF m 10 #[.val (.ref x)] [.int (Int32.ofNat V.slots.size >>> (cd &&& 31))])) := Steps.trans g4 (by
    refine ishr X4.here hexec rfl (hb hbytes d9) rfl ?_
    exact Steps.refl _)
  rw [hx.2.2.2.2.1.len v31] at c5
  exact ⟨T4, some (.int (Int32.ofNat n)), _, _, _, X4, rfl, rfl, rfl, (fun h => by cases h), ⟨rfl, q4.trans hh2⟩, fun fs hl => c5.trans (X4.ireturnOut hexec hret rfl (Or.inl rfl) (hb hbytes d10) hl)⟩
theorem pays {l : Launch} {R : Room} {p : Program} {e : Env} {below : List Frame} {s : State} {sargs : Array Value} {len W : Nat} (x t : Addr) (V : Cell) (cd : Int32) (n : Nat) (f : Nat → Int32) (z : Int32) (htab : tab.before sargs s = true) (hfr : 2 ≤ R.frames) (hlo : W + 25 ≤ R.locals) :
    Back l R p e below s sargs yN len W (fun A₁ a₁ => A₁.cells + 0 ≤ R.cells ∧ A₁.slots + 0 ≤ R.slots ∧ P x t V cd n f z a₁ A₁.U) (fun A₁ _ v₁ B₁ => E n v₁ A₁.U B₁.U ∧ B₁.locs = A₁.locs ++ [] ∧ B₁.cells = A₁.cells + 0 ∧ B₁.slots = A₁.slots + 0) :=
  (law l x t V cd n f z).pays htab hfr (by omega)
end Len
namespace IsL
def yN : MethodName := ⟨"java/lang/String", "isLatin1", "()Z"⟩
abbrev yB : ByteArray := jdk_42_method_154_code
theorem d0 : decode yB 0 = .ok (.getstatic 38, 3) := by decide +kernel
theorem d3 : decode yB 3 = .ok (.ifCond (.eq) 14, 3) := by decide +kernel
theorem d6 : decode yB 6 = .ok (.aload_n 0, 1) := by decide +kernel
theorem d7 : decode yB 7 = .ok (.getfield 15, 3) := by decide +kernel
theorem d10 : decode yB 10 = .ok (.ifCond (.ne) 7, 3) := by decide +kernel
theorem d13 : decode yB 13 = .ok (.iconst 1, 1) := by decide +kernel
theorem d14 : decode yB 14 = .ok (.goto 4, 3) := by decide +kernel
theorem d17 : decode yB 17 = .ok (.iconst 0, 1) := by decide +kernel
theorem d18 : decode yB 18 = .ok (.ireturn, 1) := by decide +kernel
def site : List Cond := [.fieldLink "java/lang/String" 38 "java/lang/String" "COMPACT_STRINGS" "Z", .fieldLink "java/lang/String" 15 "java/lang/String" "coder" "B"]
def tab : Cond := tabOf yN yB 1 (some .boolean) site
def P (x : Addr) (cd z : Int32) (args : Array Value) (s : State) : Prop := args = #[.ref x] ∧ Has x "java/lang/String" "coder" "B" (.int cd) s ∧ (cd = 0 ∨ cd = 1) ∧ StaticIs s "java/lang/String" "COMPACT_STRINGS" "Z" (.int z) ∧ ¬ z = 0
def E (cd : Int32) (r : Option Value) (s u : State) : Prop := XT.PureE (some (.int (1 - cd))) r s u
theorem law (l : Launch) (x : Addr) (cd z : Int32) : Law l yN 1 0 0 0 yB 1 (some .boolean) site (P x cd z) (E cd) [] 0 0 := by
  refine Law.of_walk (plainFor_of_name (by decide +kernel)) (by decide +kernel) (by decide +kernel) (by decide) (fun _ _ h => by rw [h.1]; rfl) (fun _ U U' hal hh h => ⟨h.1, h.2.1.mv hal hh, h.2.2.1, h.2.2.2.1.there hal hh, h.2.2.2.2⟩) (fun r U U' V V' h1 hal h2 h => XT.PureE.mv r U U' V V' h1 hal h2 h) ?_
  intro p e s m args below meth c s₁ X0 hexec hbytes hml hret hlk hnm hown hh0 W hP
  obtain ⟨rfl, hx, hc, s1, hz⟩ := hP
  have c1 : Steps p.tables e below (s₁.setTop (entryFrame m #[.ref x] 1)) (s₁.setTop (mkF m 0 #[.val (.ref x)] [])) := entry rfl
  obtain ⟨T2, X2, q2, st2⟩ := X0.sget hexec hown (wk W (.fieldLink "java/lang/String" 38 "java/lang/String" "COMPACT_STRINGS" "Z")) s1 (fun _ _ h => by rw [hh0]; exact h) (g := (mkF m 0 #[.val (.ref x)] [])) rfl (hb hbytes d0)
  have hh2 := q2.trans hh0
  have c3 : Steps p.tables e below (s₁.setTop (entryFrame m #[.ref x] 1)) (T2.setTop (mkF m 7 #[.val (.ref x)] [.ref x])) := (c1.trans (st2 _ (Steps.refl _))).trans (by
    refine XS.ifNo X2.here hexec rfl (hb hbytes d3) rfl (i0_eq_f hz) ?_
    refine XS.aloadN X2.here hexec rfl (hb hbytes d6) rfl rfl ?_
    exact Steps.refl _)
  obtain ⟨T4, X4, q4, st4⟩ := X2.hget hexec hown (wk W (.fieldLink "java/lang/String" 15 "java/lang/String" "coder" "B")) (hx.mv X2.warmed.alike hh2) (g := (mkF m 7 #[.val (.ref x)] [.ref x])) rfl (rest := []) rfl (hb hbytes d7)
  have c5 : Steps p.tables e below (s₁.setTop (entryFrame m #[.ref x] 1)) (T4.setTop (mkF m 10 #[.val (.ref x)] [.int cd])) := c3.trans (st4 _ (Steps.refl _))
  have c6 : Steps p.tables e below (s₁.setTop (entryFrame m #[.ref x] 1)) (T4.setTop (mkF m 18 #[.val (.ref x)] [.int (1 - cd)])) := by
    rcases hc with rfl | rfl
    · exact c5.trans (by
        refine XS.ifNo X4.here hexec rfl (hb hbytes d10) rfl (i0_ne_f rfl) ?_
        refine iconstV X4.here hexec rfl 1 (hb hbytes d13) (by decide) ?_
        refine XS.goto X4.here hexec rfl (pc0 := 14) rfl (hb hbytes d14) (by decide) rfl ?_
        exact Steps.refl _)
    · exact c5.trans (by
        refine XS.ifYes X4.here hexec rfl (pc0 := 10) rfl (hb hbytes d10) rfl (i0_ne_t (by decide)) (by decide) rfl ?_
        refine iconstV X4.here hexec rfl 0 (hb hbytes d17) (by decide) ?_
        exact Steps.refl _)
  exact ⟨T4, some (.int (1 - cd)), _, _, _, X4, rfl, rfl, rfl, (fun h => by cases h), ⟨rfl, q4.trans hh2⟩, fun fs hl => c6.trans (X4.ireturnOut hexec hret (by rcases hc with rfl | rfl <;> rfl) (Or.inr (Or.inl rfl)) (hb hbytes d18) hl)⟩
end IsL
namespace LChA
def yN : MethodName := ⟨"java/lang/StringLatin1", "charAt", "([BI)C"⟩
abbrev yB : ByteArray := jdk_43_method_2_code
theorem d0 : decode yB 0 = .ok (.iload_n 1, 1) := by decide +kernel
theorem d1 : decode yB 1 = .ok (.aload_n 0, 1) := by decide +kernel
theorem d2 : decode yB 2 = .ok (.arraylength, 1) := by decide +kernel
theorem d3 : decode yB 3 = .ok (.invokestatic 9, 3) := by decide +kernel
theorem d6 : decode yB 6 = .ok (.aload_n 0, 1) := by decide +kernel
theorem d7 : decode yB 7 = .ok (.iload_n 1, 1) := by decide +kernel
theorem d8 : decode yB 8 = .ok (.baload, 1) := by decide +kernel
theorem d9 : decode yB 9 = .ok (.sipush 255, 3) := by decide +kernel
theorem d12 : decode yB 12 = .ok (.iand, 1) := by decide +kernel
theorem d13 : decode yB 13 = .ok (.i2c, 1) := by decide +kernel
theorem d14 : decode yB 14 = .ok (.ireturn, 1) := by decide +kernel
def site : List Cond := [JO.Str_checkIndex.tab] ++ staticW "java/lang/StringLatin1" 9 JO.Str_checkIndex.yN
def tab : Cond := tabOf yN yB 2 (some .char) site
def P (t : Addr) (V : Cell) (i : Nat) (u : Int32) (fm : Value) (args : Array Value) (s : State) : Prop := args = #[.ref t, .int (Int32.ofNat i)] ∧ XT.Arr .byte t V s ∧ V.slots[i]? = some (.int u) ∧ (StaticIs s "jdk/internal/util/Preconditions" "SIOOBE_FORMATTER" "Ljava/util/function/BiFunction;" fm ∧ fm.isRef = true)
def E (u : Int32) (r : Option Value) (s w : State) : Prop := XT.PureE (some (.int (chr8 u))) r s w
theorem law (l : Launch) (t : Addr) (V : Cell) (i : Nat) (u : Int32) (fm : Value) : Law l yN 2 2 2 27 yB 2 (some .char) site (P t V i u fm) (E u) [] 0 0 := by
  refine Law.of_walk (plainFor_of_name (by decide +kernel)) (by decide +kernel) (by decide +kernel) (by decide) (fun _ _ h => by rw [h.1]; rfl) (fun _ U U' hal hh h => ⟨h.1, h.2.1.mv hal hh, h.2.2.1, h.2.2.2.1.there hal hh, h.2.2.2.2⟩) (fun r U U' V V' h1 hal h2 h => XT.PureE.mv r U U' V V' h1 hal h2 h) ?_
  intro p e s m args below meth c s₁ X0 hexec hbytes hml hret hlk hnm hown hh0 W hP
  obtain ⟨rfl, hV, hu, s1, rf⟩ := hP
  have v31 := hV.2.2.2
  have hi : i < V.slots.size := (Array.getElem?_eq_some_iff.mp hu).1
  have c1 : Steps p.tables e below (s₁.setTop (entryFrame m #[.ref t, .int (Int32.ofNat i)] 2)) (s₁.setTop (mkF m 0 #[.val (.ref t), .val (.int (Int32.ofNat i))] [])) := entry rfl
  have c2 : Steps p.tables e below (s₁.setTop (entryFrame m #[.ref t, .int (Int32.ofNat i)] 2)) (s₁.setTop (mkF m 3 #[.val (.ref t), .val (.int (Int32.ofNat i))] [.int (Int32.ofNat V.slots.size), .int (Int32.ofNat i)])) := c1.trans (by
    refine XS.iloadN X0.here hexec rfl (hb hbytes d0) rfl ?_
    refine XS.aloadN X0.here hexec rfl (hb hbytes d1) rfl rfl ?_
    refine X0.alen hexec (hV.mv X0.warmed.alike hh0) rfl rfl (hb hbytes d2) ?_
    exact Steps.refl _)
  obtain ⟨v3, T3, X3, E3, g3⟩ := X0.callS hexec (JO.Str_checkIndex.law l (Int32.ofNat i) (Int32.ofNat V.slots.size) fm) hown (wks W (staticW "java/lang/StringLatin1" 9 JO.Str_checkIndex.yN)) (wk W JO.Str_checkIndex.tab) (W := 0) (Nat.le_of_ble_eq_true rfl) (Nat.le_of_ble_eq_true rfl) (Nat.le_refl _) (Nat.le_refl _) (g := (mkF m 3 #[.val (.ref t), .val (.int (Int32.ofNat i))] [.int (Int32.ofNat V.slots.size), .int (Int32.ofNat i)])) rfl (by rw [hml]; rfl) c2 (argsL := [.int (Int32.ofNat i), .int (Int32.ofNat V.slots.size)]) (rest := []) rfl rfl (by show 2 * 0 + 0 ≤ _; decide) (hb hbytes d3) (⟨rfl, rf, s1.there X0.warmed.alike hh0, Int32.ofNat_not_neg (by omega), lt32 v31 hi⟩)
  obtain ⟨rfl, q3⟩ := E3
  have hh3 := q3.trans hh0
  have c4 : Steps p.tables e below (s₁.setTop (entryFrame m #[.ref t, .int (Int32.ofNat i)] 2)) (T3.setTop (mkF m 14 #[.val (.ref t), .val (.int (Int32.ofNat i))] [.int (chr8 u)])) := Steps.trans g3 (by
    refine XS.aloadN X3.here hexec rfl (hb hbytes d6) rfl rfl ?_
    refine XS.iloadN X3.here hexec rfl (hb hbytes d7) rfl ?_
    refine X3.aget hexec (hV.mv X3.warmed.alike hh3) rfl hu rfl rfl (hb hbytes d8) ?_
    refine sipushV X3.here hexec rfl 255 (hb hbytes d9) (by decide) ?_
    refine XS.iand X3.here hexec rfl (hb hbytes d12) rfl ?_
    refine i2c X3.here hexec rfl (hb hbytes d13) rfl ?_
    exact Steps.refl _)
  exact ⟨T3, some (.int (chr8 u)), _, _, _, X3, rfl, rfl, rfl, (fun h => by cases h), ⟨rfl, hh3⟩, fun fs hl => c4.trans (X3.ireturnOut hexec hret (narrow_c _) (Or.inr (Or.inr (Or.inr (Or.inl rfl)))) (hb hbytes d14) hl)⟩
end LChA
end StrChars
namespace StrChars.Road
open Jvm Sem ClassFile Op Lib Jvm.Stand Jvm.Free Jvm.Free.XT
open Jvm.Lib.Cold (StaticIs)
theorem consq {a : Array Value} {s : State} {c : Jvm.Cond} {L : List Jvm.Cond} (h0 : c.before a s = true) (h : ∀ w ∈ L, w.before a s = true) : ∀ w ∈ c :: L, w.before a s = true := fun w hw => (List.mem_cons.mp hw).elim (fun e => e ▸ h0) (h w)
/-- the words of String.length(), either coding -/
abbrev wordsLen : List Jvm.Cond := [.code Len.yN Len.yB 1 (some .int), .initialized ST, .fieldLink ST 9 ST "value" "[B", .fieldLink ST 38 ST "COMPACT_STRINGS" "Z", .fieldLink ST 15 ST "coder" "B", .code Cdr.yN Cdr.yB 1 (some .byte), .methodLink ST 335 Cdr.yN, .declares Cdr.yN, .selects ST Cdr.yN Cdr.yN, .instanceMethod Cdr.yN]
theorem tabLen_of {a : Array Value} {s : State} (h : ∀ w ∈ wordsLen, w.before a s = true) : Len.tab.before a s = true := by
  have hc : Cdr.tab.before a s = true := unparts (wk h (.code Cdr.yN Cdr.yB 1 (some .byte))) (wks h (.initialized Cdr.yN.cls :: Cdr.site))
  have q := consq hc h
  exact unparts (wk q (.code Len.yN Len.yB 1 (some .int))) (wks q (.initialized Len.yN.cls :: Len.site))
theorem movedLen {Z s : State} {a0 args : Array Value} (hZ : Z.Warmed39 s.vm) (hw : ∀ d ∈ wordsLen, d.before a0 Z = true) : ∀ d ∈ wordsLen, d.before args s = true := fun d hd => by
  have q := hw d hd
  have t : ∀ d ∈ wordsLen, d = .arrayClass .byte ∨ (d.onTables && d.keepsFace) = true := by decide +kernel
  rcases t d hd with rfl | t
  · exact RoadKit.mvA hZ q
  · exact RoadKit.mv hZ q t
/-- the bytes of the chars cs, low before high -/
def wideBytes : List Int32 → List Value
  | [] => []
  | c :: cs => .int (lo8 c) :: .int (hi8 c) :: wideBytes cs
theorem wide_lo (d : Value) : ∀ (cs : List Int32) (j : Nat), j < cs.length → (wideBytes cs).getD (2 * j) d = .int (lo8 (cs.getD j 0))
  | [], j, h => absurd h (Nat.not_lt_zero j)
  | c :: cs, 0, _ => rfl
  | c :: cs, j + 1, h => by
    have q := wide_lo d cs j (by simpa using h)
    rw [show 2 * (j + 1) = 2 * j + 1 + 1 from by omega]
    simpa [wideBytes] using q
theorem wide_hi (d : Value) : ∀ (cs : List Int32) (j : Nat), j < cs.length → (wideBytes cs).getD (2 * j + 1) d = .int (hi8 (cs.getD j 0))
  | [], j, h => absurd h (Nat.not_lt_zero j)
  | c :: cs, 0, _ => rfl
  | c :: cs, j + 1, h => by
    have q := wide_hi d cs j (by simpa using h)
    rw [show 2 * (j + 1) + 1 = 2 * j + 1 + 1 + 1 from by omega]
    simpa [wideBytes] using q
theorem low_at (d : Value) (cs : List Int32) (j : Nat) (h : j < cs.length) : (cs.map fun c => Value.int (lo8 c)).getD j d = .int (lo8 (cs.getD j 0)) := by
  simp [List.getD_eq_getElem?_getD, h]
/-- an array of N2 bytes vs codes the chars cs by the coder cd -/
def CodA (cs : List Int32) (cd N2 : Int32) (vs : List Value) : Prop := (cd = 0 ∧ N2 = Int32.ofNat cs.length ∧ vs = (cs.map fun c => Value.int (lo8 c)) ∧ ∀ c ∈ cs, ¬ 255 < c) ∨ (cd = 1 ∧ N2 = Int32.ofNat (2 * cs.length) ∧ vs = wideBytes cs ∧ ∃ c ∈ cs, 255 < c)
theorem CodA.cod {cs : List Int32} {cd N2 : Int32} {vs : List Value} {V : Cell} (h : CodA cs cd N2 vs) (hn : 2 * cs.length < 2 ^ 31) (hs : V.slots.size = N2.toNatClampNeg) (hv : RoadKit.Has V vs (.int 0)) : Cod cd cs.length (fun j => cs.getD j 0) V := by
  rcases h with ⟨rfl, rfl, rfl, h⟩ | ⟨rfl, rfl, rfl, c, hc, hw⟩
  · rw [n32 (by omega)] at hs
    exact Or.inl ⟨rfl, hs, fun j hj => ⟨by rw [hv j (by omega), low_at _ _ _ hj], by
      have e : cs.getD j 0 = cs[j] := by simp [List.getD_eq_getElem?_getD, hj]
      show ¬ 255 < cs.getD j 0
      rw [e]; exact h _ (List.getElem_mem _)⟩⟩
  · rw [n32 (by omega)] at hs
    obtain ⟨j, hj, rfl⟩ := List.getElem_of_mem hc
    exact Or.inr ⟨rfl, hs, fun j hj => ⟨by rw [hv _ (by omega), wide_lo _ _ _ hj], by rw [hv _ (by omega), wide_hi _ _ _ hj]⟩, j, hj, by
      have e : cs.getD j 0 = cs[j] := by simp [List.getD_eq_getElem?_getD, hj]
      show 255 < cs.getD j 0
      rw [e]; exact hw⟩
/-- an object of exactly java/lang/String, its two fields found: as the laws ask it -/
theorem strObj {Z U : State} {a0 : Array Value} {kI : Nat} (wi : (Jvm.Cond.instantiable ST kI).before a0 Z = true) (al : Z.vm.Alike U.vm) {x : Addr} {v0 c0 : Value} (E : RoadKit.Exa Z U.heap x ST) (V : RoadKit.Fld Z U.heap x ST "value" "[B" v0) (C : RoadKit.Fld Z U.heap x ST "coder" "B" c0) :
    ∃ (D : Cell) (fV fC : Field), Blank ST x D U ∧ Found ST "value" "[B" fV U ∧ Found ST "coder" "B" fC U ∧ D.slots[fV.slot]? = some v0 ∧ D.slots[fC.slot]? = some c0 ∧ RoadKit.slotOf Z ST "value" "[B" = fV.slot ∧ RoadKit.slotOf Z ST "coder" "B" = fC.slot := by
  obtain ⟨D, cfV, kV, iV, fV, hD, gV, stV, knV, obV, asV, slV⟩ := V
  obtain ⟨D', cfC, kC, iC, fC, hD', gC, stC, -, -, asC, slC⟩ := C
  cases hD.symm.trans hD'
  obtain ⟨D2, kD, e1, e2, e3, e4, e5⟩ := E
  cases hD.symm.trans e1
  obtain ⟨c2, k2, i1, i2, i3, -⟩ := Cond.instantiable_spec wi
  cases e2.symm.trans i1
  cases e3.symm.trans i2
  obtain ⟨kU, u1, u2⟩ := al.2.2 _ _ e3
  exact ⟨D, fV, fC, ⟨hD, ⟨knV, fun q hq => by rw [hq] at obV; cases obV⟩, by rw [al.findClass]; exact e2, kU, u1, by rw [u2]; exact i3, by rw [u2]; exact e5 i3⟩, ⟨SBG.found_only al ⟨cfV, kV, iV, gV⟩, stV⟩, ⟨SBG.found_only al ⟨cfC, kC, iC, gC⟩, stC⟩, slV, slC, by simp [RoadKit.slotOf, gV], by simp [RoadKit.slotOf, gC]⟩
theorem sta_is {Z U : State} (al : Z.vm.Alike U.vm) {C n d : String} {v : Value} (S : RoadKit.Sta Z U.heap C n d v) : StaticIs U C n d v := by
  obtain ⟨cfS, iS, kS, fS, st, cS, t1, t2, t3, t4, t5, t6, t7⟩ := S
  exact StaticIs.there (s := { Z with heap := U.heap }) ⟨cfS, iS, kS, fS, st, cS, t1, t2, t3, t4, t5, (fun q => by rw [q] at t6; cases t6), t7⟩ al rfl
/-- **length() OF SUCH A STRING** -/
theorem lenW {p : Program} {l : Launch} {e : Env} {R : Room} {s : State} {args : Array Value} {below : List Frame} {len W : Nat} {Z : State} {a0 : Array Value} {h : Heap} (hZ : Z.Warmed39 s.vm) (hw : ∀ d ∈ wordsLen, d.before a0 Z = true) {kI : Nat} (wi : (Jvm.Cond.instantiable ST kI).before a0 Z = true)
    {x t : Addr} {kb : ClassId} {cs : List Int32} {cd N2 z : Int32} {vs : List Value} (E : RoadKit.Exa Z h x ST) (V : RoadKit.Fld Z h x ST "value" "[B" (.ref t)) (C : RoadKit.Fld Z h x ST "coder" "B" (.int cd)) (K : RoadKit.Arv Z h t kb .byte N2 vs (.int 0)) (hc : CodA cs cd N2 vs) (hb : ∀ c ∈ cs, ¬ c < 0 ∧ ¬ (65535 : Int32) < c)
    (S : RoadKit.Sta Z h ST "COMPACT_STRINGS" "Z" (.int z)) (hz : ¬ z = 0) (l2 : cs.length ≤ 4000) (hfr : 2 ≤ R.frames) (hlo : W + 25 ≤ R.locals) :
    Back l R p e below s args (⟨"java/lang/String", "length", "()I"⟩ : MethodName) len W (fun P a => a = #[.ref x] ∧ P.U.heap = h ∧ P.cells + 0 ≤ R.cells ∧ P.slots + 0 ≤ R.slots)
      (fun P _ v B => ∃ L, (v = some (.int (Int32.ofNat cs.length)) ∧ L = [] ∧ B.U.heap = h) ∧ B.locs = P.locs ++ L ∧ B.cells = P.cells + 0 ∧ B.slots = P.slots + 0) := by
  obtain ⟨A, K1, K2, K3, K4, K5, K6⟩ := K
  have hcod := hc.cod (by omega) K3 K5
  intro m meth c P g ig mk a X hg hsize hdg hW hn hp'
  obtain ⟨rfl, rfl, r1, r2⟩ := hp'
  have al : Z.vm.Alike P.U.vm := hZ.alike.trans X.warmed.alike
  obtain ⟨D, fV, fC, hB, F1, F2, g1, g2, -, -⟩ := strObj wi al E V C
  have hx : Txt x t A cd cs.length (fun j => cs.getD j 0) P.U := ⟨⟨_, hB.2.2.1, D, hB.1, rfl, by cases q : D.vm <;> first | rfl | exact absurd q (hB.2.1.2 _)⟩, Has.of hB F1 g1, Has.of hB F2 g2, ⟨K1.1, State.isArrayOf_alike al K1.2.1, K1.2.2, by rcases hcod with ⟨-, q, -⟩ | ⟨-, q, -⟩ <;> omega⟩, hcod, fun j hj => by
    have e : cs.getD j 0 = cs[j] := by simp [List.getD_eq_getElem?_getD, hj]
    show ¬ cs.getD j 0 < 0 ∧ ¬ 65535 < cs.getD j 0
    rw [e]; exact hb _ (List.getElem_mem _)⟩
  obtain ⟨v, B, X', ⟨⟨hv, hh⟩, hl, hk, hs⟩, st⟩ := Len.pays x t A cd cs.length (fun j => cs.getD j 0) z (tabLen_of (movedLen hZ hw)) hfr hlo m meth c P g ig mk _ X hg hsize hdg hW hn ⟨r1, r2, rfl, hx, sta_is al S, hz⟩
  exact ⟨v, B, X', ⟨[], ⟨hv, rfl, hh⟩, hl, hk, hs⟩, st⟩
end StrChars.Road
namespace StrChars
open Jvm Sem ClassFile Op Lib Jvm.Stand Jvm.Free.XT Jvm.Free.ALB Jvm.Free.JM Jvm.Free
open Jvm.Lib.Cold (StaticIs)
namespace Emp
def yN : MethodName := ⟨"java/lang/String", "isEmpty", "()Z"⟩
abbrev yB : ByteArray := jdk_42_method_55_code
theorem d0 : decode yB 0 = .ok (.aload_n 0, 1) := by decide +kernel
theorem d1 : decode yB 1 = .ok (.getfield 9, 3) := by decide +kernel
theorem d4 : decode yB 4 = .ok (.arraylength, 1) := by decide +kernel
theorem d5 : decode yB 5 = .ok (.ifCond (.ne) 7, 3) := by decide +kernel
theorem d8 : decode yB 8 = .ok (.iconst 1, 1) := by decide +kernel
theorem d9 : decode yB 9 = .ok (.goto 4, 3) := by decide +kernel
theorem d12 : decode yB 12 = .ok (.iconst 0, 1) := by decide +kernel
theorem d13 : decode yB 13 = .ok (.ireturn, 1) := by decide +kernel
def site : List Cond := [.fieldLink "java/lang/String" 9 "java/lang/String" "value" "[B"]
def tab : Cond := tabOf yN yB 1 (some .boolean) site
def P (x t : Addr) (V : Cell) (cd : Int32) (n : Nat) (f : Nat → Int32) (args : Array Value) (s : State) : Prop := args = #[.ref x] ∧ Txt x t V cd n f s
def E (n : Nat) (r : Option Value) (s u : State) : Prop := XT.PureE (some (.int (if n = 0 then 1 else 0))) r s u
/-- isEmpty() of a String of n chars -/
theorem law (l : Launch) (x t : Addr) (V : Cell) (cd : Int32) (n : Nat) (f : Nat → Int32) : Law l yN 1 0 0 0 yB 1 (some .boolean) site (P x t V cd n f) (E n) [] 0 0 := by
  refine Law.of_walk (plainFor_of_name (by decide +kernel)) (by decide +kernel) (by decide +kernel) (by decide) (fun _ _ h => by rw [h.1]; rfl) (fun _ U U' hal hh h => ⟨h.1, h.2.mv hal hh⟩) (fun r U U' V V' h1 hal h2 h => XT.PureE.mv r U U' V V' h1 hal h2 h) ?_
  intro p e s m args below meth c s₁ X0 hexec hbytes hml hret hlk hnm hown hh0 W hP
  obtain ⟨rfl, hx⟩ := hP
  have v31 := hx.2.2.2.1.2.2.2
  have c1 : Steps p.tables e below (s₁.setTop (entryFrame m #[.ref x] 1)) (s₁.setTop (mkF m 1 #[.val (.ref x)] [.ref x])) := Steps.trans (entry rfl) (by
    show Steps p.tables e below (s₁.setTop (mkF m 0 #[.val (.ref x)] [])) _
    refine XS.aloadN X0.here hexec rfl (hb hbytes d0) rfl rfl ?_
    exact Steps.refl _)
  obtain ⟨T2, X2, q2, st2⟩ := X0.hget hexec hown (wk W (.fieldLink "java/lang/String" 9 "java/lang/String" "value" "[B")) (hx.mv X0.warmed.alike hh0).2.1 (g := (mkF m 1 #[.val (.ref x)] [.ref x])) rfl (rest := []) rfl (hb hbytes d1)
  have hh2 := q2.trans hh0
  have hx2 := hx.mv X2.warmed.alike hh2
  have c3 : Steps p.tables e below (s₁.setTop (entryFrame m #[.ref x] 1)) (T2.setTop (mkF m 5 #[.val (.ref x)] [.int (Int32.ofNat V.slots.size)])) := (c1.trans (st2 _ (Steps.refl _))).trans (by
    refine X2.alen hexec hx2.2.2.2.1 rfl rfl (hb hbytes d4) ?_
    exact Steps.refl _)
  have hz : V.slots.size = 0 ↔ n = 0 := by
    rcases hx.2.2.2.2.1 with ⟨-, q, -⟩ | ⟨-, q, -⟩ <;> omega
  by_cases h0 : n = 0
  · have c4 : Steps p.tables e below (s₁.setTop (entryFrame m #[.ref x] 1)) (T2.setTop (mkF m 13 #[.val (.ref x)] [.int 1])) := c3.trans (by
      refine XS.ifNo X2.here hexec rfl (hb hbytes d5) rfl (i0_ne_f (by rw [hz.mpr h0]; rfl)) ?_
      refine iconstV X2.here hexec rfl 1 (hb hbytes d8) (by decide) ?_
      refine XS.goto X2.here hexec rfl (pc0 := 9) rfl (hb hbytes d9) (by decide) rfl ?_
      exact Steps.refl _)
    exact ⟨T2, some (.int 1), _, _, _, X2, rfl, rfl, rfl, (fun h => by cases h), ⟨by rw [if_pos h0], hh2⟩, fun fs hl => c4.trans (X2.ireturnOut hexec hret rfl (Or.inr (Or.inl rfl)) (hb hbytes d13) hl)⟩
  · have c4 : Steps p.tables e below (s₁.setTop (entryFrame m #[.ref x] 1)) (T2.setTop (mkF m 13 #[.val (.ref x)] [.int 0])) := c3.trans (by
      refine XS.ifYes X2.here hexec rfl (pc0 := 5) rfl (hb hbytes d5) rfl (i0_ne_t (nz32 v31 (by omega))) (by decide) rfl ?_
      refine iconstV X2.here hexec rfl 0 (hb hbytes d12) (by decide) ?_
      exact Steps.refl _)
    exact ⟨T2, some (.int 0), _, _, _, X2, rfl, rfl, rfl, (fun h => by cases h), ⟨by rw [if_neg h0], hh2⟩, fun fs hl => c4.trans (X2.ireturnOut hexec hret rfl (Or.inr (Or.inl rfl)) (hb hbytes d13) hl)⟩
theorem pays {l : Launch} {R : Room} {p : Program} {e : Env} {below : List Frame} {s : State} {sargs : Array Value} {len W : Nat} (x t : Addr) (V : Cell) (cd : Int32) (n : Nat) (f : Nat → Int32) (htab : tab.before sargs s = true) (hfr : 1 ≤ R.frames) (hlo : W + 12 ≤ R.locals) :
    Back l R p e below s sargs yN len W (fun A₁ a₁ => A₁.cells + 0 ≤ R.cells ∧ A₁.slots + 0 ≤ R.slots ∧ P x t V cd n f a₁ A₁.U) (fun A₁ _ v₁ B₁ => E n v₁ A₁.U B₁.U ∧ B₁.locs = A₁.locs ++ [] ∧ B₁.cells = A₁.cells + 0 ∧ B₁.slots = A₁.slots + 0) :=
  (law l x t V cd n f).pays htab hfr (by omega)
end Emp
end StrChars
namespace StrChars.Road
open Jvm Sem ClassFile Op Lib Jvm.Stand Jvm.Free Jvm.Free.XT
open Jvm.Lib.Cold (StaticIs)
/-- the words of String.isEmpty() -/
abbrev wordsEmp : List Jvm.Cond := [.code Emp.yN Emp.yB 1 (some .boolean), .initialized ST, .fieldLink ST 9 ST "value" "[B"]
theorem tabEmp_of {a : Array Value} {s : State} (h : ∀ w ∈ wordsEmp, w.before a s = true) : Emp.tab.before a s = true := unparts (wk h (.code Emp.yN Emp.yB 1 (some .boolean))) (wks h (.initialized Emp.yN.cls :: Emp.site))
theorem movedEmp {Z s : State} {a0 args : Array Value} (hZ : Z.Warmed39 s.vm) (hw : ∀ d ∈ wordsEmp, d.before a0 Z = true) : ∀ d ∈ wordsEmp, d.before args s = true := fun d hd => by
  have t : ∀ d ∈ wordsEmp, (d.onTables && d.keepsFace) = true := by decide +kernel
  exact RoadKit.mv hZ (hw d hd) (t d hd)
/-- the road's facts of a String, as the laws ask it -/
theorem txt_of {Z U : State} {a0 : Array Value} {kI : Nat} (wi : (Jvm.Cond.instantiable ST kI).before a0 Z = true) (al : Z.vm.Alike U.vm) {x t : Addr} {kb : ClassId} {cs : List Int32} {cd N2 : Int32} {vs : List Value} (E : RoadKit.Exa Z U.heap x ST) (V : RoadKit.Fld Z U.heap x ST "value" "[B" (.ref t)) (C : RoadKit.Fld Z U.heap x ST "coder" "B" (.int cd)) (K : RoadKit.Arv Z U.heap t kb .byte N2 vs (.int 0)) (hc : CodA cs cd N2 vs) (hb : ∀ c ∈ cs, ¬ c < 0 ∧ ¬ (65535 : Int32) < c) (l2 : cs.length ≤ 4000) :
    ∃ A, Txt x t A cd cs.length (fun j => cs.getD j 0) U := by
  obtain ⟨A, K1, K2, K3, K4, K5, K6⟩ := K
  have hcod := hc.cod (by omega) K3 K5
  obtain ⟨D, fV, fC, hB, F1, F2, g1, g2, -, -⟩ := strObj wi al E V C
  exact ⟨A, ⟨_, hB.2.2.1, D, hB.1, rfl, by cases q : D.vm <;> first | rfl | exact absurd q (hB.2.1.2 _)⟩, Has.of hB F1 g1, Has.of hB F2 g2, ⟨K1.1, State.isArrayOf_alike al K1.2.1, K1.2.2, by rcases hcod with ⟨-, q, -⟩ | ⟨-, q, -⟩ <;> omega⟩, hcod, fun j hj => by
    have e : cs.getD j 0 = cs[j] := by simp [List.getD_eq_getElem?_getD, hj]
    show ¬ cs.getD j 0 < 0 ∧ ¬ 65535 < cs.getD j 0
    rw [e]; exact hb _ (List.getElem_mem _)⟩
/-- **isEmpty() OF SUCH A STRING** -/
theorem empW {p : Program} {l : Launch} {e : Env} {R : Room} {s : State} {args : Array Value} {below : List Frame} {len W : Nat} {Z : State} {a0 : Array Value} {h : Heap} (hZ : Z.Warmed39 s.vm) (hw : ∀ d ∈ wordsEmp, d.before a0 Z = true) {kI : Nat} (wi : (Jvm.Cond.instantiable ST kI).before a0 Z = true)
    {x t : Addr} {kb : ClassId} {cs : List Int32} {cd N2 : Int32} {vs : List Value} (E : RoadKit.Exa Z h x ST) (V : RoadKit.Fld Z h x ST "value" "[B" (.ref t)) (C : RoadKit.Fld Z h x ST "coder" "B" (.int cd)) (K : RoadKit.Arv Z h t kb .byte N2 vs (.int 0)) (hc : CodA cs cd N2 vs) (hb : ∀ c ∈ cs, ¬ c < 0 ∧ ¬ (65535 : Int32) < c) (l2 : cs.length ≤ 4000) (hfr : 1 ≤ R.frames) (hlo : W + 12 ≤ R.locals) :
    Back l R p e below s args (⟨"java/lang/String", "isEmpty", "()Z"⟩ : MethodName) len W (fun P a => a = #[.ref x] ∧ P.U.heap = h ∧ P.cells + 0 ≤ R.cells ∧ P.slots + 0 ≤ R.slots)
      (fun P _ v B => ∃ L, (v = some (.int (if cs.length = 0 then 1 else 0)) ∧ L = [] ∧ B.U.heap = h) ∧ B.locs = P.locs ++ L ∧ B.cells = P.cells + 0 ∧ B.slots = P.slots + 0) := by
  intro m meth c P g ig mk a X hg hsize hdg hW hn hp'
  obtain ⟨rfl, rfl, r1, r2⟩ := hp'
  have al : Z.vm.Alike P.U.vm := hZ.alike.trans X.warmed.alike
  obtain ⟨A, hx⟩ := txt_of wi al E V C K hc hb l2
  obtain ⟨v, B, X', ⟨⟨hv, hh⟩, hl, hk, hs⟩, st⟩ := Emp.pays x t A cd cs.length (fun j => cs.getD j 0) (tabEmp_of (movedEmp hZ hw)) hfr hlo m meth c P g ig mk _ X hg hsize hdg hW hn ⟨r1, r2, rfl, hx⟩
  exact ⟨v, B, X', ⟨[], ⟨hv, rfl, hh⟩, hl, hk, hs⟩, st⟩
end StrChars.Road
namespace StrChars
open Jvm Sem ClassFile Op Lib Jvm.Stand Jvm.Free.XT Jvm.Free.ALB Jvm.Free.JM Jvm.Free
open Jvm.Lib.Cold (StaticIs)
namespace ChN
def yN : MethodName := ⟨"java/lang/String", "charAt", "(I)C"⟩
abbrev yB : ByteArray := jdk_42_method_56_code
theorem d0 : decode yB 0 = .ok (.aload_n 0, 1) := by decide +kernel
theorem d1 : decode yB 1 = .ok (.invokevirtual 492, 3) := by decide +kernel
theorem d4 : decode yB 4 = .ok (.ifCond (.eq) 12, 3) := by decide +kernel
theorem d7 : decode yB 7 = .ok (.aload_n 0, 1) := by decide +kernel
theorem d8 : decode yB 8 = .ok (.getfield 9, 3) := by decide +kernel
theorem d11 : decode yB 11 = .ok (.iload_n 1, 1) := by decide +kernel
theorem d12 : decode yB 12 = .ok (.invokestatic 495, 3) := by decide +kernel
theorem d15 : decode yB 15 = .ok (.ireturn, 1) := by decide +kernel
def site : List Cond := [.fieldLink "java/lang/String" 9 "java/lang/String" "value" "[B", IsL.tab, LChA.tab] ++ virtW "java/lang/String" 492 "java/lang/String" IsL.yN IsL.yN ++ staticW "java/lang/String" 495 LChA.yN
def tab : Cond := tabOf yN yB 2 (some .char) site
def P (x t : Addr) (V : Cell) (n : Nat) (f : Nat → Int32) (z : Int32) (fm : Value) (i : Nat) (args : Array Value) (s : State) : Prop := args = #[.ref x, .int (Int32.ofNat i)] ∧ Txt x t V 0 n f s ∧ i < n ∧ StaticIs s "java/lang/String" "COMPACT_STRINGS" "Z" (.int z) ∧ ¬ z = 0 ∧ StaticIs s "jdk/internal/util/Preconditions" "SIOOBE_FORMATTER" "Ljava/util/function/BiFunction;" fm ∧ fm.isRef = true
def E (f : Nat → Int32) (i : Nat) (r : Option Value) (s u : State) : Prop := XT.PureE (some (.int (f i))) r s u
/-- charAt(i) of a Latin-1 String of n chars, i < n: f i -/
theorem law (l : Launch) (x t : Addr) (V : Cell) (n : Nat) (f : Nat → Int32) (z : Int32) (fm : Value) (i : Nat) : Law l yN 2 1 3 40 yB 2 (some .char) site (P x t V n f z fm i) (E f i) [] 0 0 := by
  refine Law.of_walk (plainFor_of_name (by decide +kernel)) (by decide +kernel) (by decide +kernel) (by decide) (fun _ _ h => by rw [h.1]; rfl) (fun _ U U' hal hh h => ⟨h.1, h.2.1.mv hal hh, h.2.2.1, h.2.2.2.1.there hal hh, h.2.2.2.2.1, h.2.2.2.2.2.1.there hal hh, h.2.2.2.2.2.2⟩) (fun r U U' V V' h1 hal h2 h => XT.PureE.mv r U U' V V' h1 hal h2 h) ?_
  intro p e s m args below meth c s₁ X0 hexec hbytes hml hret hlk hnm hown hh0 W hP
  obtain ⟨rfl, hx, hi, s1, hz, s3, rf⟩ := hP
  have v31 := hx.2.2.2.1.2.2.2
  have hr := hx.2.2.2.2.2 i hi
  have hx0 := hx.mv X0.warmed.alike hh0
  have c1 : Steps p.tables e below (s₁.setTop (entryFrame m #[.ref x, .int (Int32.ofNat i)] 2)) (s₁.setTop (mkF m 1 #[.val (.ref x), .val (.int (Int32.ofNat i))] [.ref x])) := Steps.trans (entry rfl) (by
    show Steps p.tables e below (s₁.setTop (mkF m 0 #[.val (.ref x), .val (.int (Int32.ofNat i))] [])) _
    refine XS.aloadN X0.here hexec rfl (hb hbytes d0) rfl rfl ?_
    exact Steps.refl _)
  obtain ⟨v2, T2, X2, E2, g2⟩ := X0.callV hexec (IsL.law l x 0 z) hown (wks W (virtW "java/lang/String" 492 "java/lang/String" IsL.yN IsL.yN)) rfl (by decide) (wk W IsL.tab) (W := 0) (Nat.le_of_ble_eq_true rfl) (Nat.le_of_ble_eq_true rfl) (Nat.le_refl _) (Nat.le_refl _) (hx0.1.fc X0.warmed.alike) hx0.1.is (g := (mkF m 1 #[.val (.ref x), .val (.int (Int32.ofNat i))] [.ref x])) rfl (by rw [hml]; rfl) c1 (argsL := []) (rest := []) rfl rfl (by show 2 * 0 + 0 ≤ _; decide) (hb hbytes d1) (⟨rfl, hx0.2.2.1, hx.2.2.2.2.1.cd, s1.there X0.warmed.alike hh0, hz⟩)
  obtain ⟨rfl, q2⟩ := E2
  have hh2 := q2.trans hh0
  have hx2 := hx.mv X2.warmed.alike hh2
  obtain ⟨-, k1, k2⟩ | ⟨k0, -⟩ := hx.2.2.2.2.1
  · have c3 : Steps p.tables e below (s₁.setTop (entryFrame m #[.ref x, .int (Int32.ofNat i)] 2)) (T2.setTop (mkF m 8 #[.val (.ref x), .val (.int (Int32.ofNat i))] [.ref x])) := Steps.trans g2 (by
      refine XS.ifNo X2.here hexec rfl (hb hbytes d4) rfl (i0_eq_f (by decide)) ?_
      refine XS.aloadN X2.here hexec rfl (hb hbytes d7) rfl rfl ?_
      exact Steps.refl _)
    obtain ⟨T4, X4, q4, st4⟩ := X2.hget hexec hown (wk W (.fieldLink "java/lang/String" 9 "java/lang/String" "value" "[B")) hx2.2.1 (g := (mkF m 8 #[.val (.ref x), .val (.int (Int32.ofNat i))] [.ref x])) rfl (rest := []) rfl (hb hbytes d8)
    have hh4 := q4.trans hh2
    have c5 : Steps p.tables e below (s₁.setTop (entryFrame m #[.ref x, .int (Int32.ofNat i)] 2)) (T4.setTop (mkF m 12 #[.val (.ref x), .val (.int (Int32.ofNat i))] [.int (Int32.ofNat i), .ref t])) := (c3.trans (st4 _ (Steps.refl _))).trans (by
      refine XS.iloadN X4.here hexec rfl (hb hbytes d11) rfl ?_
      exact Steps.refl _)
    obtain ⟨v6, T6, X6, E6, g6⟩ := X4.callS hexec (LChA.law l t V i (lo8 (f i)) fm) hown (wks W (staticW "java/lang/String" 495 LChA.yN)) (wk W LChA.tab) (W := 0) (Nat.le_of_ble_eq_true rfl) (Nat.le_of_ble_eq_true rfl) (Nat.le_refl _) (Nat.le_refl _) (g := (mkF m 12 #[.val (.ref x), .val (.int (Int32.ofNat i))] [.int (Int32.ofNat i), .ref t])) rfl (by rw [hml]; rfl) c5 (argsL := [.ref t, .int (Int32.ofNat i)]) (rest := []) rfl rfl (by show 2 * 0 + 0 ≤ _; decide) (hb hbytes d12) (⟨rfl, hx.2.2.2.1.mv X4.warmed.alike hh4, (k2 i hi).1, s3.there X4.warmed.alike hh4, rf⟩)
    obtain ⟨rfl, q6⟩ := E6
    rw [chr8_lo8 hr.1 (k2 i hi).2] at g6
    exact ⟨T6, some (.int (f i)), _, _, _, X6, rfl, rfl, rfl, (fun h => by cases h), ⟨rfl, q6.trans hh4⟩, fun fs hl => Steps.trans g6 (X6.ireturnOut hexec hret (narrow_ch hr.1 hr.2) (Or.inr (Or.inr (Or.inr (Or.inl rfl)))) (hb hbytes d15) hl)⟩
  · exact absurd k0 (by decide)
theorem pays {l : Launch} {R : Room} {p : Program} {e : Env} {below : List Frame} {s : State} {sargs : Array Value} {len W : Nat} (x t : Addr) (V : Cell) (n : Nat) (f : Nat → Int32) (z : Int32) (fm : Value) (i : Nat) (htab : tab.before sargs s = true) (hfr : 4 ≤ R.frames) (hlo : W + 53 ≤ R.locals) :
    Back l R p e below s sargs yN len W (fun A₁ a₁ => A₁.cells + 0 ≤ R.cells ∧ A₁.slots + 0 ≤ R.slots ∧ P x t V n f z fm i a₁ A₁.U) (fun A₁ _ v₁ B₁ => E f i v₁ A₁.U B₁.U ∧ B₁.locs = A₁.locs ++ [] ∧ B₁.cells = A₁.cells + 0 ∧ B₁.slots = A₁.slots + 0) :=
  (law l x t V n f z fm i).pays htab hfr (by omega)
end ChN
end StrChars
namespace StrChars.Road
open Jvm Sem ClassFile Op Lib Jvm.Stand Jvm.Free Jvm.Free.XT
open Jvm.Lib.Cold (StaticIs)
/-- the words of String.charAt(int), the Latin-1 road alone -/
abbrev wordsChN : List Jvm.Cond := [.code ChN.yN ChN.yB 2 (some .char), .initialized ST, .fieldLink ST 9 ST "value" "[B", .fieldLink ST 38 ST "COMPACT_STRINGS" "Z", .fieldLink ST 15 ST "coder" "B", .code IsL.yN IsL.yB 1 (some .boolean), .methodLink ST 492 IsL.yN, .declares IsL.yN, .selects ST IsL.yN IsL.yN, .instanceMethod IsL.yN,
  .methodLink ST 495 LChA.yN, .static LChA.yN, .code LChA.yN LChA.yB 2 (some .char), .initialized "java/lang/StringLatin1", .methodLink "java/lang/StringLatin1" 9 JO.Str_checkIndex.yN, .static JO.Str_checkIndex.yN, .code JO.Str_checkIndex.yN JO.Str_checkIndex.yB 2 none,
  .fieldLink ST 1053 "jdk/internal/util/Preconditions" "SIOOBE_FORMATTER" "Ljava/util/function/BiFunction;", .methodLink ST 1059 JC.PreCheck.yN, .static JC.PreCheck.yN, .code JC.PreCheck.yN JC.PreCheck.yB 3 (some .int), .initialized "jdk/internal/util/Preconditions"]
theorem tabChN_of {a : Array Value} {s : State} (h : ∀ w ∈ wordsChN, w.before a s = true) : ChN.tab.before a s = true := by
  have hp : JC.PreCheck.tab.before a s = true := unparts (wk h (.code JC.PreCheck.yN JC.PreCheck.yB 3 (some .int))) (wks h (.initialized JC.PreCheck.yN.cls :: JC.PreCheck.site))
  have qk := consq hp h
  have hk : JO.Str_checkIndex.tab.before a s = true := unparts (wk qk (.code JO.Str_checkIndex.yN JO.Str_checkIndex.yB 2 none)) (wks qk (.initialized JO.Str_checkIndex.yN.cls :: JO.Str_checkIndex.site))
  have ql := consq hk h
  have hl : LChA.tab.before a s = true := unparts (wk ql (.code LChA.yN LChA.yB 2 (some .char))) (wks ql (.initialized LChA.yN.cls :: LChA.site))
  have hi : IsL.tab.before a s = true := unparts (wk h (.code IsL.yN IsL.yB 1 (some .boolean))) (wks h (.initialized IsL.yN.cls :: IsL.site))
  have q := consq hi (consq hl h)
  exact unparts (wk q (.code ChN.yN ChN.yB 2 (some .char))) (wks q (.initialized ChN.yN.cls :: ChN.site))
theorem movedChN {Z s : State} {a0 args : Array Value} (hZ : Z.Warmed39 s.vm) (hw : ∀ d ∈ wordsChN, d.before a0 Z = true) : ∀ d ∈ wordsChN, d.before args s = true := fun d hd => by
  have t : ∀ d ∈ wordsChN, (d.onTables && d.keepsFace) = true := by decide +kernel
  exact RoadKit.mv hZ (hw d hd) (t d hd)
/-- **charAt(i) OF A LATIN-1 STRING**, i < n: the char -/
theorem chN {p : Program} {l : Launch} {e : Env} {R : Room} {s : State} {args : Array Value} {below : List Frame} {len W : Nat} {Z : State} {a0 : Array Value} {h : Heap} (hZ : Z.Warmed39 s.vm) (hw : ∀ d ∈ wordsChN, d.before a0 Z = true) {kI : Nat} (wi : (Jvm.Cond.instantiable ST kI).before a0 Z = true)
    {x t : Addr} {kb : ClassId} {cs : List Int32} {N2 z : Int32} {vs : List Value} {fm : Value} {i : Nat} {j : Int32} (E : RoadKit.Exa Z h x ST) (V : RoadKit.Fld Z h x ST "value" "[B" (.ref t)) (C : RoadKit.Fld Z h x ST "coder" "B" (.int 0)) (K : RoadKit.Arv Z h t kb .byte N2 vs (.int 0)) (hc : CodA cs 0 N2 vs) (hb : ∀ c ∈ cs, ¬ c < 0 ∧ ¬ (65535 : Int32) < c)
    (S : RoadKit.Sta Z h ST "COMPACT_STRINGS" "Z" (.int z)) (hz : ¬ z = 0) (F : RoadKit.Sta Z h "jdk/internal/util/Preconditions" "SIOOBE_FORMATTER" "Ljava/util/function/BiFunction;" fm) (rf : fm.isRef = true) (l2 : cs.length ≤ 4000) (hi : i < cs.length) (hj : j = Int32.ofNat i) (hfr : 4 ≤ R.frames) (hlo : W + 53 ≤ R.locals) :
    Back l R p e below s args (⟨"java/lang/String", "charAt", "(I)C"⟩ : MethodName) len W (fun P a => a = #[.ref x, .int j] ∧ P.U.heap = h ∧ P.cells + 0 ≤ R.cells ∧ P.slots + 0 ≤ R.slots)
      (fun P _ v B => ∃ L, (v = some (.int (cs.getD i 0)) ∧ L = [] ∧ B.U.heap = h) ∧ B.locs = P.locs ++ L ∧ B.cells = P.cells + 0 ∧ B.slots = P.slots + 0) := by
  subst hj
  intro m meth c P g ig mk a X hg hsize hdg hW hn hp'
  obtain ⟨rfl, rfl, r1, r2⟩ := hp'
  have al : Z.vm.Alike P.U.vm := hZ.alike.trans X.warmed.alike
  obtain ⟨A, hx⟩ := txt_of wi al E V C K hc hb l2
  obtain ⟨v, B, X', ⟨⟨hv, hh⟩, hl, hk, hs⟩, st⟩ := ChN.pays x t A cs.length (fun j => cs.getD j 0) z fm i (tabChN_of (movedChN hZ hw)) hfr hlo m meth c P g ig mk _ X hg hsize hdg hW hn ⟨r1, r2, rfl, hx, hi, sta_is al S, hz, sta_is al F, rf⟩
  exact ⟨v, B, X', ⟨[], ⟨hv, rfl, hh⟩, hl, hk, hs⟩, st⟩
/-- what backV says of its String, as the contracts of this text ask it: cs's low bytes, coder 0 -/
theorem codOf {cs : List Int32} {n : Nat} (hn : cs.length = n) (hb : ∀ c ∈ cs, ¬ 255 < c) : CodA cs 0 (Int32.ofNat n) ((cs.map lo8).map Value.int) := Or.inl ⟨rfl, by rw [hn], by simp [List.map_map, Function.comp_def], hb⟩
end StrChars.Road
end Jvm.Pilot.@@N@@

namespace Jvm.Pilot.@@N@@
open Jvm Jvm.ClassFile Sem Op Lib Jvm.Free Jvm.Stand Jvm.LawKit Jvm.RoadKit Bundle Jvm.Pilot.@@N@@.Jvm.D
theorem own_w0 : (Jvm.Cond.constant "com/example/sault/sault/ArgumentsLockNamePinLaw" (7 : Nat) (65535 : Int32)) ∈ tables_1 := List.mem_of_getElem? (i := 0) rfl
theorem own_w1 : (Jvm.Cond.methodLink "com/example/sault/sault/ArgumentsLockNamePinLaw" (8 : Nat) ({ cls := "com/example/sault/sault/ArgumentsLockNamePinLaw", name := "make", desc := "(ICCCC)Ljava/lang/String;" } : Jvm.MethodName)) ∈ tables_1 := List.mem_of_getElem? (i := 1) rfl
theorem own_w2 : (Jvm.Cond.static ({ cls := "com/example/sault/sault/ArgumentsLockNamePinLaw", name := "make", desc := "(ICCCC)Ljava/lang/String;" } : Jvm.MethodName)) ∈ tables_1 := List.mem_of_getElem? (i := 2) rfl
theorem own_w3 : (Jvm.Cond.initialized "com/example/sault/sault/ArgumentsLockNamePinLaw") ∈ tables_1 := List.mem_of_getElem? (i := 3) rfl
theorem own_w4 : (Jvm.Cond.code ({ cls := "com/example/sault/sault/ArgumentsLockNamePinLaw", name := "make", desc := "(ICCCC)Ljava/lang/String;" } : Jvm.MethodName) method_3_code (6 : Nat) (Option.some (Jvm.ClassFile.FieldType.object "java/lang/String"))) ∈ tables_1 := List.mem_of_getElem? (i := 4) rfl
theorem own_w5 : (Jvm.Cond.arrayClass Jvm.ClassFile.FieldType.char) ∈ tables_1 := List.mem_of_getElem? (i := 5) rfl
theorem own_w6 : (Jvm.Cond.classLink "com/example/sault/sault/ArgumentsLockNamePinLaw" (21 : Nat) "java/lang/String") ∈ tables_1 := List.mem_of_getElem? (i := 6) rfl
theorem own_w7 : (Jvm.Cond.instantiable "java/lang/String" (4 : Nat)) ∈ tables_1 := List.mem_of_getElem? (i := 7) rfl
theorem own_w8 : (Jvm.Cond.initialized "java/lang/String") ∈ tables_1 := List.mem_of_getElem? (i := 8) rfl
theorem own_w9 : (Jvm.Cond.methodLink "com/example/sault/sault/ArgumentsLockNamePinLaw" (30 : Nat) ({ cls := "java/lang/String", name := "<init>", desc := "([C)V" } : Jvm.MethodName)) ∈ tables_1 := List.mem_of_getElem? (i := 9) rfl
theorem own_w10 : (Jvm.Cond.instanceMethod ({ cls := "java/lang/String", name := "<init>", desc := "([C)V" } : Jvm.MethodName)) ∈ tables_1 := List.mem_of_getElem? (i := 10) rfl
theorem own_w11 : (Jvm.Cond.code ({ cls := "java/lang/String", name := "<init>", desc := "([C)V" } : Jvm.MethodName) jdk_42_method_3_code (2 : Nat) (Option.none : Option Jvm.ClassFile.FieldType)) ∈ tables_1 := List.mem_of_getElem? (i := 11) rfl
theorem own_w12 : (Jvm.Cond.methodLink "java/lang/String" (27 : Nat) ({ cls := "java/lang/String", name := "<init>", desc := "([CIILjava/lang/Void;)V" } : Jvm.MethodName)) ∈ tables_1 := List.mem_of_getElem? (i := 12) rfl
theorem own_w13 : (Jvm.Cond.instanceMethod ({ cls := "java/lang/String", name := "<init>", desc := "([CIILjava/lang/Void;)V" } : Jvm.MethodName)) ∈ tables_1 := List.mem_of_getElem? (i := 13) rfl
theorem own_w15 : (Jvm.Cond.code ({ cls := "java/lang/String", name := "<init>", desc := "([CIILjava/lang/Void;)V" } : Jvm.MethodName) jdk_42_method_149_code (6 : Nat) (Option.none : Option Jvm.ClassFile.FieldType)) ∈ tables_1 := List.mem_of_getElem? (i := 15) rfl
theorem own_w16 : (Jvm.Cond.methodLink "java/lang/String" (1 : Nat) ({ cls := "java/lang/Object", name := "<init>", desc := "()V" } : Jvm.MethodName)) ∈ tables_1 := List.mem_of_getElem? (i := 16) rfl
theorem own_w17 : (Jvm.Cond.instanceMethod ({ cls := "java/lang/Object", name := "<init>", desc := "()V" } : Jvm.MethodName)) ∈ tables_1 := List.mem_of_getElem? (i := 17) rfl
theorem own_w18 : (Jvm.Cond.code ({ cls := "java/lang/Object", name := "<init>", desc := "()V" } : Jvm.MethodName) object_method_1_code (1 : Nat) (Option.none : Option Jvm.ClassFile.FieldType)) ∈ tables_1 := List.mem_of_getElem? (i := 18) rfl
theorem own_w19 : (Jvm.Cond.fieldLink "java/lang/String" (38 : Nat) "java/lang/String" "COMPACT_STRINGS" "Z") ∈ tables_1 := List.mem_of_getElem? (i := 19) rfl
theorem own_w20 : (Jvm.Cond.methodLink "java/lang/String" (177 : Nat) ({ cls := "java/lang/StringUTF16", name := "compress", desc := "([CII)[B" } : Jvm.MethodName)) ∈ tables_1 := List.mem_of_getElem? (i := 20) rfl
theorem own_w21 : (Jvm.Cond.static ({ cls := "java/lang/StringUTF16", name := "compress", desc := "([CII)[B" } : Jvm.MethodName)) ∈ tables_1 := List.mem_of_getElem? (i := 21) rfl
theorem own_w22 : (Jvm.Cond.initialized "java/lang/StringUTF16") ∈ tables_1 := List.mem_of_getElem? (i := 22) rfl
theorem own_w23 : (Jvm.Cond.code ({ cls := "java/lang/StringUTF16", name := "compress", desc := "([CII)[B" } : Jvm.MethodName) jdk_52_method_16_code (6 : Nat) (Option.some (Jvm.ClassFile.FieldType.array Jvm.ClassFile.FieldType.byte))) ∈ tables_1 := List.mem_of_getElem? (i := 23) rfl
theorem own_w24 : (Jvm.Cond.arrayClass Jvm.ClassFile.FieldType.byte) ∈ tables_1 := List.mem_of_getElem? (i := 24) rfl
theorem own_w25 : (Jvm.Cond.methodLink "java/lang/StringUTF16" (115 : Nat) ({ cls := "java/lang/StringUTF16", name := "compress", desc := "([CI[BII)I" } : Jvm.MethodName)) ∈ tables_1 := List.mem_of_getElem? (i := 25) rfl
theorem own_w26 : (Jvm.Cond.static ({ cls := "java/lang/StringUTF16", name := "compress", desc := "([CI[BII)I" } : Jvm.MethodName)) ∈ tables_1 := List.mem_of_getElem? (i := 26) rfl
theorem own_w27 : (Jvm.Cond.code ({ cls := "java/lang/StringUTF16", name := "compress", desc := "([CI[BII)I" } : Jvm.MethodName) jdk_52_method_21_code (7 : Nat) (Option.some Jvm.ClassFile.FieldType.int)) ∈ tables_1 := List.mem_of_getElem? (i := 27) rfl
theorem own_w28 : (Jvm.Cond.methodLink "java/lang/String" (47 : Nat) ({ cls := "java/lang/StringUTF16", name := "coderFromArrayLen", desc := "([BI)B" } : Jvm.MethodName)) ∈ tables_1 := List.mem_of_getElem? (i := 28) rfl
theorem own_w29 : (Jvm.Cond.static ({ cls := "java/lang/StringUTF16", name := "coderFromArrayLen", desc := "([BI)B" } : Jvm.MethodName)) ∈ tables_1 := List.mem_of_getElem? (i := 29) rfl
theorem own_w30 : (Jvm.Cond.code ({ cls := "java/lang/StringUTF16", name := "coderFromArrayLen", desc := "([BI)B" } : Jvm.MethodName) jdk_52_method_15_code (2 : Nat) (Option.some Jvm.ClassFile.FieldType.byte)) ∈ tables_1 := List.mem_of_getElem? (i := 30) rfl
theorem own_w31 : (Jvm.Cond.fieldLink "java/lang/String" (15 : Nat) "java/lang/String" "coder" "B") ∈ tables_1 := List.mem_of_getElem? (i := 31) rfl
theorem own_w32 : (Jvm.Cond.laysFinal "java/lang/String" "java/lang/String" "coder" "B") ∈ tables_1 := List.mem_of_getElem? (i := 32) rfl
theorem own_w33 : (Jvm.Cond.fieldLink "java/lang/String" (9 : Nat) "java/lang/String" "value" "[B") ∈ tables_1 := List.mem_of_getElem? (i := 33) rfl
theorem own_w34 : (Jvm.Cond.laysFinal "java/lang/String" "java/lang/String" "value" "[B") ∈ tables_1 := List.mem_of_getElem? (i := 34) rfl
theorem own_w35 : (Jvm.Cond.methodLink "com/example/sault/sault/ArgumentsLockNamePinLaw" (14 : Nat) ({ cls := "com/example/sault/sault/Arguments", name := "lockName", desc := "(Ljava/lang/String;)Ljava/lang/String;" } : Jvm.MethodName)) ∈ tables_1 := List.mem_of_getElem? (i := 35) rfl
theorem own_w36 : (Jvm.Cond.static ({ cls := "com/example/sault/sault/Arguments", name := "lockName", desc := "(Ljava/lang/String;)Ljava/lang/String;" } : Jvm.MethodName)) ∈ tables_1 := List.mem_of_getElem? (i := 36) rfl
theorem own_w37 : (Jvm.Cond.initialized "com/example/sault/sault/Arguments") ∈ tables_1 := List.mem_of_getElem? (i := 37) rfl
theorem own_w38 : (Jvm.Cond.code ({ cls := "com/example/sault/sault/Arguments", name := "lockName", desc := "(Ljava/lang/String;)Ljava/lang/String;" } : Jvm.MethodName) prog_1_method_2_code (1 : Nat) (Option.some (Jvm.ClassFile.FieldType.object "java/lang/String"))) ∈ tables_1 := List.mem_of_getElem? (i := 38) rfl
theorem own_w39 : (Jvm.Cond.methodLink "com/example/sault/sault/Arguments" (7 : Nat) ({ cls := "java/lang/String", name := "isEmpty", desc := "()Z" } : Jvm.MethodName)) ∈ tables_1 := List.mem_of_getElem? (i := 39) rfl
theorem own_w40 : (Jvm.Cond.declares ({ cls := "java/lang/String", name := "isEmpty", desc := "()Z" } : Jvm.MethodName)) ∈ tables_1 := List.mem_of_getElem? (i := 40) rfl
theorem own_w41 : (Jvm.Cond.instanceMethod ({ cls := "java/lang/String", name := "isEmpty", desc := "()Z" } : Jvm.MethodName)) ∈ tables_1 := List.mem_of_getElem? (i := 41) rfl
theorem own_w42 : (Jvm.Cond.selects "java/lang/String" ({ cls := "java/lang/String", name := "isEmpty", desc := "()Z" } : Jvm.MethodName) ({ cls := "java/lang/String", name := "isEmpty", desc := "()Z" } : Jvm.MethodName)) ∈ tables_1 := List.mem_of_getElem? (i := 42) rfl
theorem own_w44 : (Jvm.Cond.methodLink "com/example/sault/sault/ArgumentsLockNamePinLaw" (20 : Nat) ({ cls := "java/lang/String", name := "length", desc := "()I" } : Jvm.MethodName)) ∈ tables_1 := List.mem_of_getElem? (i := 44) rfl
theorem own_w45 : (Jvm.Cond.declares ({ cls := "java/lang/String", name := "length", desc := "()I" } : Jvm.MethodName)) ∈ tables_1 := List.mem_of_getElem? (i := 45) rfl
theorem own_w46 : (Jvm.Cond.instanceMethod ({ cls := "java/lang/String", name := "length", desc := "()I" } : Jvm.MethodName)) ∈ tables_1 := List.mem_of_getElem? (i := 46) rfl
theorem own_w47 : (Jvm.Cond.selects "java/lang/String" ({ cls := "java/lang/String", name := "length", desc := "()I" } : Jvm.MethodName) ({ cls := "java/lang/String", name := "length", desc := "()I" } : Jvm.MethodName)) ∈ tables_1 := List.mem_of_getElem? (i := 47) rfl
theorem own_w54 : (Jvm.Cond.methodLink "com/example/sault/sault/ArgumentsLockNamePinLaw" (26 : Nat) ({ cls := "java/lang/String", name := "charAt", desc := "(I)C" } : Jvm.MethodName)) ∈ tables_1 := List.mem_of_getElem? (i := 54) rfl
theorem own_w55 : (Jvm.Cond.declares ({ cls := "java/lang/String", name := "charAt", desc := "(I)C" } : Jvm.MethodName)) ∈ tables_1 := List.mem_of_getElem? (i := 55) rfl
theorem own_w56 : (Jvm.Cond.instanceMethod ({ cls := "java/lang/String", name := "charAt", desc := "(I)C" } : Jvm.MethodName)) ∈ tables_1 := List.mem_of_getElem? (i := 56) rfl
theorem own_w57 : (Jvm.Cond.selects "java/lang/String" ({ cls := "java/lang/String", name := "charAt", desc := "(I)C" } : Jvm.MethodName) ({ cls := "java/lang/String", name := "charAt", desc := "(I)C" } : Jvm.MethodName)) ∈ tables_1 := List.mem_of_getElem? (i := 57) rfl
theorem own_w58 : (Jvm.Cond.code ({ cls := "java/lang/String", name := "charAt", desc := "(I)C" } : Jvm.MethodName) jdk_42_method_56_code (2 : Nat) (Option.some Jvm.ClassFile.FieldType.char)) ∈ tables_1 := List.mem_of_getElem? (i := 58) rfl
theorem own_w59 : (Jvm.Cond.methodLink "java/lang/String" (492 : Nat) ({ cls := "java/lang/String", name := "isLatin1", desc := "()Z" } : Jvm.MethodName)) ∈ tables_1 := List.mem_of_getElem? (i := 59) rfl
theorem own_w60 : (Jvm.Cond.declares ({ cls := "java/lang/String", name := "isLatin1", desc := "()Z" } : Jvm.MethodName)) ∈ tables_1 := List.mem_of_getElem? (i := 60) rfl
theorem own_w61 : (Jvm.Cond.instanceMethod ({ cls := "java/lang/String", name := "isLatin1", desc := "()Z" } : Jvm.MethodName)) ∈ tables_1 := List.mem_of_getElem? (i := 61) rfl
theorem own_w62 : (Jvm.Cond.selects "java/lang/String" ({ cls := "java/lang/String", name := "isLatin1", desc := "()Z" } : Jvm.MethodName) ({ cls := "java/lang/String", name := "isLatin1", desc := "()Z" } : Jvm.MethodName)) ∈ tables_1 := List.mem_of_getElem? (i := 62) rfl
theorem own_w63 : (Jvm.Cond.code ({ cls := "java/lang/String", name := "isLatin1", desc := "()Z" } : Jvm.MethodName) jdk_42_method_154_code (1 : Nat) (Option.some Jvm.ClassFile.FieldType.boolean)) ∈ tables_1 := List.mem_of_getElem? (i := 63) rfl
theorem own_w69 : (Jvm.Cond.static ({ cls := "java/lang/String", name := "checkIndex", desc := "(II)V" } : Jvm.MethodName)) ∈ tables_1 := List.mem_of_getElem? (i := 69) rfl
theorem own_w70 : (Jvm.Cond.code ({ cls := "java/lang/String", name := "checkIndex", desc := "(II)V" } : Jvm.MethodName) jdk_42_method_155_code (2 : Nat) (Option.none : Option Jvm.ClassFile.FieldType)) ∈ tables_1 := List.mem_of_getElem? (i := 70) rfl
theorem own_w71 : (Jvm.Cond.fieldLink "java/lang/String" (1053 : Nat) "jdk/internal/util/Preconditions" "SIOOBE_FORMATTER" "Ljava/util/function/BiFunction;") ∈ tables_1 := List.mem_of_getElem? (i := 71) rfl
theorem own_w72 : (Jvm.Cond.initialized "jdk/internal/util/Preconditions") ∈ tables_1 := List.mem_of_getElem? (i := 72) rfl
theorem own_w73 : (Jvm.Cond.methodLink "java/lang/String" (1059 : Nat) ({ cls := "jdk/internal/util/Preconditions", name := "checkIndex", desc := "(IILjava/util/function/BiFunction;)I" } : Jvm.MethodName)) ∈ tables_1 := List.mem_of_getElem? (i := 73) rfl
theorem own_w74 : (Jvm.Cond.static ({ cls := "jdk/internal/util/Preconditions", name := "checkIndex", desc := "(IILjava/util/function/BiFunction;)I" } : Jvm.MethodName)) ∈ tables_1 := List.mem_of_getElem? (i := 74) rfl
theorem own_w75 : (Jvm.Cond.code ({ cls := "jdk/internal/util/Preconditions", name := "checkIndex", desc := "(IILjava/util/function/BiFunction;)I" } : Jvm.MethodName) jdk_41_method_11_code (3 : Nat) (Option.some Jvm.ClassFile.FieldType.int)) ∈ tables_1 := List.mem_of_getElem? (i := 75) rfl
theorem own_w76 : (Jvm.Cond.methodLink "java/lang/StringUTF16" (119 : Nat) ({ cls := "java/lang/StringUTF16", name := "toBytes", desc := "([CII)[B" } : Jvm.MethodName)) ∈ tables_1 := List.mem_of_getElem? (i := 76) rfl
theorem own_w77 : (Jvm.Cond.static ({ cls := "java/lang/StringUTF16", name := "toBytes", desc := "([CII)[B" } : Jvm.MethodName)) ∈ tables_1 := List.mem_of_getElem? (i := 77) rfl
theorem own_w78 : (Jvm.Cond.code ({ cls := "java/lang/StringUTF16", name := "toBytes", desc := "([CII)[B" } : Jvm.MethodName) jdk_52_method_14_code (5 : Nat) (Option.some (Jvm.ClassFile.FieldType.array Jvm.ClassFile.FieldType.byte))) ∈ tables_1 := List.mem_of_getElem? (i := 78) rfl
theorem own_w79 : (Jvm.Cond.methodLink "java/lang/StringUTF16" (107 : Nat) ({ cls := "java/lang/StringUTF16", name := "newBytesFor", desc := "(I)[B" } : Jvm.MethodName)) ∈ tables_1 := List.mem_of_getElem? (i := 79) rfl
theorem own_w80 : (Jvm.Cond.static ({ cls := "java/lang/StringUTF16", name := "newBytesFor", desc := "(I)[B" } : Jvm.MethodName)) ∈ tables_1 := List.mem_of_getElem? (i := 80) rfl
theorem own_w81 : (Jvm.Cond.code ({ cls := "java/lang/StringUTF16", name := "newBytesFor", desc := "(I)[B" } : Jvm.MethodName) jdk_52_method_2_code (1 : Nat) (Option.some (Jvm.ClassFile.FieldType.array Jvm.ClassFile.FieldType.byte))) ∈ tables_1 := List.mem_of_getElem? (i := 81) rfl
theorem own_w82 : (Jvm.Cond.methodLink "java/lang/StringUTF16" (11 : Nat) ({ cls := "java/lang/StringUTF16", name := "newBytesLength", desc := "(I)I" } : Jvm.MethodName)) ∈ tables_1 := List.mem_of_getElem? (i := 82) rfl
theorem own_w83 : (Jvm.Cond.static ({ cls := "java/lang/StringUTF16", name := "newBytesLength", desc := "(I)I" } : Jvm.MethodName)) ∈ tables_1 := List.mem_of_getElem? (i := 83) rfl
theorem own_w84 : (Jvm.Cond.code ({ cls := "java/lang/StringUTF16", name := "newBytesLength", desc := "(I)I" } : Jvm.MethodName) jdk_52_method_3_code (1 : Nat) (Option.some Jvm.ClassFile.FieldType.int)) ∈ tables_1 := List.mem_of_getElem? (i := 84) rfl
theorem own_w85 : (Jvm.Cond.constant "java/lang/StringUTF16" (20 : Nat) (1073741823 : Int32)) ∈ tables_1 := List.mem_of_getElem? (i := 85) rfl
theorem own_w86 : (Jvm.Cond.methodLink "java/lang/StringUTF16" (111 : Nat) ({ cls := "java/lang/StringUTF16", name := "putChar", desc := "([BII)V" } : Jvm.MethodName)) ∈ tables_1 := List.mem_of_getElem? (i := 86) rfl
theorem own_w87 : (Jvm.Cond.static ({ cls := "java/lang/StringUTF16", name := "putChar", desc := "([BII)V" } : Jvm.MethodName)) ∈ tables_1 := List.mem_of_getElem? (i := 87) rfl
theorem own_w88 : (Jvm.Cond.code ({ cls := "java/lang/StringUTF16", name := "putChar", desc := "([BII)V" } : Jvm.MethodName) jdk_52_method_4_code (3 : Nat) (Option.none : Option Jvm.ClassFile.FieldType)) ∈ tables_1 := List.mem_of_getElem? (i := 88) rfl
theorem own_w89 : (Jvm.Cond.fieldLink "java/lang/StringUTF16" (44 : Nat) "java/lang/StringUTF16" "$assertionsDisabled" "Z") ∈ tables_1 := List.mem_of_getElem? (i := 89) rfl
theorem own_w90 : (Jvm.Cond.fieldLink "java/lang/StringUTF16" (59 : Nat) "java/lang/StringUTF16" "HI_BYTE_SHIFT" "I") ∈ tables_1 := List.mem_of_getElem? (i := 90) rfl
theorem own_w91 : (Jvm.Cond.fieldLink "java/lang/StringUTF16" (63 : Nat) "java/lang/StringUTF16" "LO_BYTE_SHIFT" "I") ∈ tables_1 := List.mem_of_getElem? (i := 91) rfl
theorem own_w92 : (Jvm.Cond.methodLink "java/lang/StringUTF16" (71 : Nat) ({ cls := "java/lang/StringUTF16", name := "getChar", desc := "([BI)C" } : Jvm.MethodName)) ∈ tables_1 := List.mem_of_getElem? (i := 92) rfl
theorem own_w93 : (Jvm.Cond.static ({ cls := "java/lang/StringUTF16", name := "getChar", desc := "([BI)C" } : Jvm.MethodName)) ∈ tables_1 := List.mem_of_getElem? (i := 93) rfl
theorem own_w94 : (Jvm.Cond.code ({ cls := "java/lang/StringUTF16", name := "getChar", desc := "([BI)C" } : Jvm.MethodName) jdk_52_method_5_code (2 : Nat) (Option.some Jvm.ClassFile.FieldType.char)) ∈ tables_1 := List.mem_of_getElem? (i := 94) rfl
theorem own_w95 : (Jvm.Cond.methodLink "java/lang/String" (498 : Nat) ({ cls := "java/lang/StringUTF16", name := "charAt", desc := "([BI)C" } : Jvm.MethodName)) ∈ tables_1 := List.mem_of_getElem? (i := 95) rfl
theorem own_w96 : (Jvm.Cond.static ({ cls := "java/lang/StringUTF16", name := "charAt", desc := "([BI)C" } : Jvm.MethodName)) ∈ tables_1 := List.mem_of_getElem? (i := 96) rfl
theorem own_w97 : (Jvm.Cond.code ({ cls := "java/lang/StringUTF16", name := "charAt", desc := "([BI)C" } : Jvm.MethodName) jdk_52_method_83_code (2 : Nat) (Option.some Jvm.ClassFile.FieldType.char)) ∈ tables_1 := List.mem_of_getElem? (i := 97) rfl
theorem own_w98 : (Jvm.Cond.methodLink "java/lang/StringUTF16" (67 : Nat) ({ cls := "java/lang/StringUTF16", name := "checkIndex", desc := "(I[B)V" } : Jvm.MethodName)) ∈ tables_1 := List.mem_of_getElem? (i := 98) rfl
theorem own_w99 : (Jvm.Cond.static ({ cls := "java/lang/StringUTF16", name := "checkIndex", desc := "(I[B)V" } : Jvm.MethodName)) ∈ tables_1 := List.mem_of_getElem? (i := 99) rfl
theorem own_w100 : (Jvm.Cond.code ({ cls := "java/lang/StringUTF16", name := "checkIndex", desc := "(I[B)V" } : Jvm.MethodName) jdk_52_method_91_code (2 : Nat) (Option.none : Option Jvm.ClassFile.FieldType)) ∈ tables_1 := List.mem_of_getElem? (i := 100) rfl
theorem own_w101 : (Jvm.Cond.methodLink "java/lang/StringUTF16" (48 : Nat) ({ cls := "java/lang/StringUTF16", name := "length", desc := "([B)I" } : Jvm.MethodName)) ∈ tables_1 := List.mem_of_getElem? (i := 101) rfl
theorem own_w102 : (Jvm.Cond.static ({ cls := "java/lang/StringUTF16", name := "length", desc := "([B)I" } : Jvm.MethodName)) ∈ tables_1 := List.mem_of_getElem? (i := 102) rfl
theorem own_w103 : (Jvm.Cond.code ({ cls := "java/lang/StringUTF16", name := "length", desc := "([B)I" } : Jvm.MethodName) jdk_52_method_6_code (1 : Nat) (Option.some Jvm.ClassFile.FieldType.int)) ∈ tables_1 := List.mem_of_getElem? (i := 103) rfl
theorem own_w104 : (Jvm.Cond.methodLink "java/lang/StringUTF16" (414 : Nat) ({ cls := "java/lang/String", name := "checkIndex", desc := "(II)V" } : Jvm.MethodName)) ∈ tables_1 := List.mem_of_getElem? (i := 104) rfl
theorem own_d_jdk_41_method_11_code_0 : decode jdk_41_method_11_code 0 = .ok (.iload_n 0, 1) := by decide +kernel
theorem own_d_jdk_41_method_11_code_1 : decode jdk_41_method_11_code 1 = .ok (.ifCond .lt 8, 3) := by decide +kernel
theorem own_d_jdk_41_method_11_code_4 : decode jdk_41_method_11_code 4 = .ok (.iload_n 0, 1) := by decide +kernel
theorem own_d_jdk_41_method_11_code_5 : decode jdk_41_method_11_code 5 = .ok (.iload_n 1, 1) := by decide +kernel
theorem own_d_jdk_41_method_11_code_6 : decode jdk_41_method_11_code 6 = .ok (.if_icmp .lt 10, 3) := by decide +kernel
theorem own_d_jdk_41_method_11_code_16 : decode jdk_41_method_11_code 16 = .ok (.iload_n 0, 1) := by decide +kernel
theorem own_d_jdk_41_method_11_code_17 : decode jdk_41_method_11_code 17 = .ok (.ireturn, 1) := by decide +kernel
theorem own_d_jdk_42_method_155_code_0 : decode jdk_42_method_155_code 0 = .ok (.iload_n 0, 1) := by decide +kernel
theorem own_d_jdk_42_method_155_code_1 : decode jdk_42_method_155_code 1 = .ok (.iload_n 1, 1) := by decide +kernel
theorem own_d_jdk_42_method_155_code_2 : decode jdk_42_method_155_code 2 = .ok (.getstatic 1053, 3) := by decide +kernel
theorem own_d_jdk_42_method_155_code_5 : decode jdk_42_method_155_code 5 = .ok (.invokestatic 1059, 3) := by decide +kernel
theorem own_d_jdk_42_method_155_code_8 : decode jdk_42_method_155_code 8 = .ok (.pop, 1) := by decide +kernel
theorem own_d_jdk_42_method_155_code_9 : decode jdk_42_method_155_code 9 = .ok (.return_, 1) := by decide +kernel
theorem own_d_jdk_52_method_6_code_0 : decode jdk_52_method_6_code 0 = .ok (.aload_n 0, 1) := by decide +kernel
theorem own_d_jdk_52_method_6_code_1 : decode jdk_52_method_6_code 1 = .ok (.arraylength, 1) := by decide +kernel
theorem own_d_jdk_52_method_6_code_2 : decode jdk_52_method_6_code 2 = .ok (.iconst 1, 1) := by decide +kernel
theorem own_d_jdk_52_method_6_code_3 : decode jdk_52_method_6_code 3 = .ok (.ishr, 1) := by decide +kernel
theorem own_d_jdk_52_method_6_code_4 : decode jdk_52_method_6_code 4 = .ok (.ireturn, 1) := by decide +kernel
theorem own_d_jdk_52_method_91_code_0 : decode jdk_52_method_91_code 0 = .ok (.iload_n 0, 1) := by decide +kernel
theorem own_d_jdk_52_method_91_code_1 : decode jdk_52_method_91_code 1 = .ok (.aload_n 1, 1) := by decide +kernel
theorem own_d_jdk_52_method_91_code_2 : decode jdk_52_method_91_code 2 = .ok (.invokestatic 48, 3) := by decide +kernel
theorem own_d_jdk_52_method_91_code_5 : decode jdk_52_method_91_code 5 = .ok (.invokestatic 414, 3) := by decide +kernel
theorem own_d_jdk_52_method_91_code_8 : decode jdk_52_method_91_code 8 = .ok (.return_, 1) := by decide +kernel
theorem own_d_jdk_52_method_5_code_0 : decode jdk_52_method_5_code 0 = .ok (.getstatic 44, 3) := by decide +kernel
theorem own_d_jdk_52_method_5_code_3 : decode jdk_52_method_5_code 3 = .ok (.ifCond .ne 25, 3) := by decide +kernel
theorem own_d_jdk_52_method_5_code_28 : decode jdk_52_method_5_code 28 = .ok (.iload_n 1, 1) := by decide +kernel
theorem own_d_jdk_52_method_5_code_29 : decode jdk_52_method_5_code 29 = .ok (.iconst 1, 1) := by decide +kernel
theorem own_d_jdk_52_method_5_code_30 : decode jdk_52_method_5_code 30 = .ok (.ishl, 1) := by decide +kernel
theorem own_d_jdk_52_method_5_code_31 : decode jdk_52_method_5_code 31 = .ok (.istore_n 1, 1) := by decide +kernel
theorem own_d_jdk_52_method_5_code_32 : decode jdk_52_method_5_code 32 = .ok (.aload_n 0, 1) := by decide +kernel
theorem own_d_jdk_52_method_5_code_33 : decode jdk_52_method_5_code 33 = .ok (.iload_n 1, 1) := by decide +kernel
theorem own_d_jdk_52_method_5_code_34 : decode jdk_52_method_5_code 34 = .ok (.iinc 1 1, 3) := by decide +kernel
theorem own_d_jdk_52_method_5_code_37 : decode jdk_52_method_5_code 37 = .ok (.baload, 1) := by decide +kernel
theorem own_d_jdk_52_method_5_code_38 : decode jdk_52_method_5_code 38 = .ok (.sipush 255, 3) := by decide +kernel
theorem own_d_jdk_52_method_5_code_41 : decode jdk_52_method_5_code 41 = .ok (.iand, 1) := by decide +kernel
theorem own_d_jdk_52_method_5_code_42 : decode jdk_52_method_5_code 42 = .ok (.getstatic 59, 3) := by decide +kernel
theorem own_d_jdk_52_method_5_code_45 : decode jdk_52_method_5_code 45 = .ok (.ishl, 1) := by decide +kernel
theorem own_d_jdk_52_method_5_code_46 : decode jdk_52_method_5_code 46 = .ok (.aload_n 0, 1) := by decide +kernel
theorem own_d_jdk_52_method_5_code_47 : decode jdk_52_method_5_code 47 = .ok (.iload_n 1, 1) := by decide +kernel
theorem own_d_jdk_52_method_5_code_48 : decode jdk_52_method_5_code 48 = .ok (.baload, 1) := by decide +kernel
theorem own_d_jdk_52_method_5_code_49 : decode jdk_52_method_5_code 49 = .ok (.sipush 255, 3) := by decide +kernel
theorem own_d_jdk_52_method_5_code_52 : decode jdk_52_method_5_code 52 = .ok (.iand, 1) := by decide +kernel
theorem own_d_jdk_52_method_5_code_53 : decode jdk_52_method_5_code 53 = .ok (.getstatic 63, 3) := by decide +kernel
theorem own_d_jdk_52_method_5_code_56 : decode jdk_52_method_5_code 56 = .ok (.ishl, 1) := by decide +kernel
theorem own_d_jdk_52_method_5_code_57 : decode jdk_52_method_5_code 57 = .ok (.ior, 1) := by decide +kernel
theorem own_d_jdk_52_method_5_code_58 : decode jdk_52_method_5_code 58 = .ok (.i2c, 1) := by decide +kernel
theorem own_d_jdk_52_method_5_code_59 : decode jdk_52_method_5_code 59 = .ok (.ireturn, 1) := by decide +kernel
theorem own_d_jdk_52_method_83_code_0 : decode jdk_52_method_83_code 0 = .ok (.iload_n 1, 1) := by decide +kernel
theorem own_d_jdk_52_method_83_code_1 : decode jdk_52_method_83_code 1 = .ok (.aload_n 0, 1) := by decide +kernel
theorem own_d_jdk_52_method_83_code_2 : decode jdk_52_method_83_code 2 = .ok (.invokestatic 67, 3) := by decide +kernel
theorem own_d_jdk_52_method_83_code_5 : decode jdk_52_method_83_code 5 = .ok (.aload_n 0, 1) := by decide +kernel
theorem own_d_jdk_52_method_83_code_6 : decode jdk_52_method_83_code 6 = .ok (.iload_n 1, 1) := by decide +kernel
theorem own_d_jdk_52_method_83_code_7 : decode jdk_52_method_83_code 7 = .ok (.invokestatic 71, 3) := by decide +kernel
theorem own_d_jdk_52_method_83_code_10 : decode jdk_52_method_83_code 10 = .ok (.ireturn, 1) := by decide +kernel
theorem own_d_jdk_42_method_154_code_0 : decode jdk_42_method_154_code 0 = .ok (.getstatic 38, 3) := by decide +kernel
theorem own_d_jdk_42_method_154_code_3 : decode jdk_42_method_154_code 3 = .ok (.ifCond .eq 14, 3) := by decide +kernel
theorem own_d_jdk_42_method_154_code_6 : decode jdk_42_method_154_code 6 = .ok (.aload_n 0, 1) := by decide +kernel
theorem own_d_jdk_42_method_154_code_7 : decode jdk_42_method_154_code 7 = .ok (.getfield 15, 3) := by decide +kernel
theorem own_d_jdk_42_method_154_code_10 : decode jdk_42_method_154_code 10 = .ok (.ifCond .ne 7, 3) := by decide +kernel
theorem own_d_jdk_42_method_154_code_17 : decode jdk_42_method_154_code 17 = .ok (.iconst 0, 1) := by decide +kernel
theorem own_d_jdk_42_method_154_code_18 : decode jdk_42_method_154_code 18 = .ok (.ireturn, 1) := by decide +kernel
theorem own_d_jdk_42_method_56_code_0 : decode jdk_42_method_56_code 0 = .ok (.aload_n 0, 1) := by decide +kernel
theorem own_d_jdk_42_method_56_code_1 : decode jdk_42_method_56_code 1 = .ok (.invokevirtual 492, 3) := by decide +kernel
theorem own_d_jdk_42_method_56_code_4 : decode jdk_42_method_56_code 4 = .ok (.ifCond .eq 12, 3) := by decide +kernel
theorem own_d_jdk_42_method_56_code_16 : decode jdk_42_method_56_code 16 = .ok (.aload_n 0, 1) := by decide +kernel
theorem own_d_jdk_42_method_56_code_17 : decode jdk_42_method_56_code 17 = .ok (.getfield 9, 3) := by decide +kernel
theorem own_d_jdk_42_method_56_code_20 : decode jdk_42_method_56_code 20 = .ok (.iload_n 1, 1) := by decide +kernel
theorem own_d_jdk_42_method_56_code_21 : decode jdk_42_method_56_code 21 = .ok (.invokestatic 498, 3) := by decide +kernel
theorem own_d_jdk_42_method_56_code_24 : decode jdk_42_method_56_code 24 = .ok (.ireturn, 1) := by decide +kernel
theorem own_d_jdk_52_method_4_code_0 : decode jdk_52_method_4_code 0 = .ok (.getstatic 44, 3) := by decide +kernel
theorem own_d_jdk_52_method_4_code_3 : decode jdk_52_method_4_code 3 = .ok (.ifCond .ne 25, 3) := by decide +kernel
theorem own_d_jdk_52_method_4_code_28 : decode jdk_52_method_4_code 28 = .ok (.iload_n 1, 1) := by decide +kernel
theorem own_d_jdk_52_method_4_code_29 : decode jdk_52_method_4_code 29 = .ok (.iconst 1, 1) := by decide +kernel
theorem own_d_jdk_52_method_4_code_30 : decode jdk_52_method_4_code 30 = .ok (.ishl, 1) := by decide +kernel
theorem own_d_jdk_52_method_4_code_31 : decode jdk_52_method_4_code 31 = .ok (.istore_n 1, 1) := by decide +kernel
theorem own_d_jdk_52_method_4_code_32 : decode jdk_52_method_4_code 32 = .ok (.aload_n 0, 1) := by decide +kernel
theorem own_d_jdk_52_method_4_code_33 : decode jdk_52_method_4_code 33 = .ok (.iload_n 1, 1) := by decide +kernel
theorem own_d_jdk_52_method_4_code_34 : decode jdk_52_method_4_code 34 = .ok (.iinc 1 1, 3) := by decide +kernel
theorem own_d_jdk_52_method_4_code_37 : decode jdk_52_method_4_code 37 = .ok (.iload_n 2, 1) := by decide +kernel
theorem own_d_jdk_52_method_4_code_38 : decode jdk_52_method_4_code 38 = .ok (.getstatic 59, 3) := by decide +kernel
theorem own_d_jdk_52_method_4_code_41 : decode jdk_52_method_4_code 41 = .ok (.ishr, 1) := by decide +kernel
theorem own_d_jdk_52_method_4_code_42 : decode jdk_52_method_4_code 42 = .ok (.i2b, 1) := by decide +kernel
theorem own_d_jdk_52_method_4_code_43 : decode jdk_52_method_4_code 43 = .ok (.bastore, 1) := by decide +kernel
theorem own_d_jdk_52_method_4_code_44 : decode jdk_52_method_4_code 44 = .ok (.aload_n 0, 1) := by decide +kernel
theorem own_d_jdk_52_method_4_code_45 : decode jdk_52_method_4_code 45 = .ok (.iload_n 1, 1) := by decide +kernel
theorem own_d_jdk_52_method_4_code_46 : decode jdk_52_method_4_code 46 = .ok (.iload_n 2, 1) := by decide +kernel
theorem own_d_jdk_52_method_4_code_47 : decode jdk_52_method_4_code 47 = .ok (.getstatic 63, 3) := by decide +kernel
theorem own_d_jdk_52_method_4_code_50 : decode jdk_52_method_4_code 50 = .ok (.ishr, 1) := by decide +kernel
theorem own_d_jdk_52_method_4_code_51 : decode jdk_52_method_4_code 51 = .ok (.i2b, 1) := by decide +kernel
theorem own_d_jdk_52_method_4_code_52 : decode jdk_52_method_4_code 52 = .ok (.bastore, 1) := by decide +kernel
theorem own_d_jdk_52_method_4_code_53 : decode jdk_52_method_4_code 53 = .ok (.return_, 1) := by decide +kernel
theorem own_d_jdk_52_method_3_code_0 : decode jdk_52_method_3_code 0 = .ok (.iload_n 0, 1) := by decide +kernel
theorem own_d_jdk_52_method_3_code_1 : decode jdk_52_method_3_code 1 = .ok (.ifCond .ge 11, 3) := by decide +kernel
theorem own_d_jdk_52_method_3_code_12 : decode jdk_52_method_3_code 12 = .ok (.iload_n 0, 1) := by decide +kernel
theorem own_d_jdk_52_method_3_code_13 : decode jdk_52_method_3_code 13 = .ok (.ldc 20, 2) := by decide +kernel
theorem own_d_jdk_52_method_3_code_15 : decode jdk_52_method_3_code 15 = .ok (.if_icmp .lt 40, 3) := by decide +kernel
theorem own_d_jdk_52_method_3_code_55 : decode jdk_52_method_3_code 55 = .ok (.iload_n 0, 1) := by decide +kernel
theorem own_d_jdk_52_method_3_code_56 : decode jdk_52_method_3_code 56 = .ok (.iconst 1, 1) := by decide +kernel
theorem own_d_jdk_52_method_3_code_57 : decode jdk_52_method_3_code 57 = .ok (.ishl, 1) := by decide +kernel
theorem own_d_jdk_52_method_3_code_58 : decode jdk_52_method_3_code 58 = .ok (.ireturn, 1) := by decide +kernel
theorem own_d_jdk_52_method_2_code_0 : decode jdk_52_method_2_code 0 = .ok (.iload_n 0, 1) := by decide +kernel
theorem own_d_jdk_52_method_2_code_1 : decode jdk_52_method_2_code 1 = .ok (.invokestatic 11, 3) := by decide +kernel
theorem own_d_jdk_52_method_2_code_4 : decode jdk_52_method_2_code 4 = .ok (.newarray .byte, 2) := by decide +kernel
theorem own_d_jdk_52_method_2_code_6 : decode jdk_52_method_2_code 6 = .ok (.areturn, 1) := by decide +kernel
theorem own_d_jdk_52_method_14_code_0 : decode jdk_52_method_14_code 0 = .ok (.iload_n 2, 1) := by decide +kernel
theorem own_d_jdk_52_method_14_code_1 : decode jdk_52_method_14_code 1 = .ok (.invokestatic 107, 3) := by decide +kernel
theorem own_d_jdk_52_method_14_code_4 : decode jdk_52_method_14_code 4 = .ok (.astore_n 3, 1) := by decide +kernel
theorem own_d_jdk_52_method_14_code_5 : decode jdk_52_method_14_code 5 = .ok (.iconst 0, 1) := by decide +kernel
theorem own_d_jdk_52_method_14_code_6 : decode jdk_52_method_14_code 6 = .ok (.istore 4, 2) := by decide +kernel
theorem own_d_jdk_52_method_14_code_8 : decode jdk_52_method_14_code 8 = .ok (.iload 4, 2) := by decide +kernel
theorem own_d_jdk_52_method_14_code_10 : decode jdk_52_method_14_code 10 = .ok (.iload_n 2, 1) := by decide +kernel
theorem own_d_jdk_52_method_14_code_11 : decode jdk_52_method_14_code 11 = .ok (.if_icmp .ge 21, 3) := by decide +kernel
theorem own_d_jdk_52_method_14_code_14 : decode jdk_52_method_14_code 14 = .ok (.aload_n 3, 1) := by decide +kernel
theorem own_d_jdk_52_method_14_code_15 : decode jdk_52_method_14_code 15 = .ok (.iload 4, 2) := by decide +kernel
theorem own_d_jdk_52_method_14_code_17 : decode jdk_52_method_14_code 17 = .ok (.aload_n 0, 1) := by decide +kernel
theorem own_d_jdk_52_method_14_code_18 : decode jdk_52_method_14_code 18 = .ok (.iload_n 1, 1) := by decide +kernel
theorem own_d_jdk_52_method_14_code_19 : decode jdk_52_method_14_code 19 = .ok (.caload, 1) := by decide +kernel
theorem own_d_jdk_52_method_14_code_20 : decode jdk_52_method_14_code 20 = .ok (.invokestatic 111, 3) := by decide +kernel
theorem own_d_jdk_52_method_14_code_23 : decode jdk_52_method_14_code 23 = .ok (.iinc 1 1, 3) := by decide +kernel
theorem own_d_jdk_52_method_14_code_26 : decode jdk_52_method_14_code 26 = .ok (.iinc 4 1, 3) := by decide +kernel
theorem own_d_jdk_52_method_14_code_29 : decode jdk_52_method_14_code 29 = .ok (.goto (-21), 3) := by decide +kernel
theorem own_d_jdk_52_method_14_code_32 : decode jdk_52_method_14_code 32 = .ok (.aload_n 3, 1) := by decide +kernel
theorem own_d_jdk_52_method_14_code_33 : decode jdk_52_method_14_code 33 = .ok (.areturn, 1) := by decide +kernel
theorem own_d_jdk_52_method_21_code_0 : decode jdk_52_method_21_code 0 = .ok (.iconst 0, 1) := by decide +kernel
theorem own_d_jdk_52_method_21_code_1 : decode jdk_52_method_21_code 1 = .ok (.istore 5, 2) := by decide +kernel
theorem own_d_jdk_52_method_21_code_3 : decode jdk_52_method_21_code 3 = .ok (.iload 5, 2) := by decide +kernel
theorem own_d_jdk_52_method_21_code_5 : decode jdk_52_method_21_code 5 = .ok (.iload 4, 2) := by decide +kernel
theorem own_d_jdk_52_method_21_code_7 : decode jdk_52_method_21_code 7 = .ok (.if_icmp .ge 37, 3) := by decide +kernel
theorem own_d_jdk_52_method_21_code_10 : decode jdk_52_method_21_code 10 = .ok (.aload_n 0, 1) := by decide +kernel
theorem own_d_jdk_52_method_21_code_11 : decode jdk_52_method_21_code 11 = .ok (.iload_n 1, 1) := by decide +kernel
theorem own_d_jdk_52_method_21_code_12 : decode jdk_52_method_21_code 12 = .ok (.caload, 1) := by decide +kernel
theorem own_d_jdk_52_method_21_code_13 : decode jdk_52_method_21_code 13 = .ok (.istore 6, 2) := by decide +kernel
theorem own_d_jdk_52_method_21_code_15 : decode jdk_52_method_21_code 15 = .ok (.iload 6, 2) := by decide +kernel
theorem own_d_jdk_52_method_21_code_17 : decode jdk_52_method_21_code 17 = .ok (.sipush 255, 3) := by decide +kernel
theorem own_d_jdk_52_method_21_code_20 : decode jdk_52_method_21_code 20 = .ok (.if_icmp .le 6, 3) := by decide +kernel
theorem own_d_jdk_52_method_21_code_23 : decode jdk_52_method_21_code 23 = .ok (.iload 5, 2) := by decide +kernel
theorem own_d_jdk_52_method_21_code_25 : decode jdk_52_method_21_code 25 = .ok (.ireturn, 1) := by decide +kernel
theorem own_d_jdk_52_method_21_code_26 : decode jdk_52_method_21_code 26 = .ok (.aload_n 2, 1) := by decide +kernel
theorem own_d_jdk_52_method_21_code_27 : decode jdk_52_method_21_code 27 = .ok (.iload_n 3, 1) := by decide +kernel
theorem own_d_jdk_52_method_21_code_28 : decode jdk_52_method_21_code 28 = .ok (.iload 6, 2) := by decide +kernel
theorem own_d_jdk_52_method_21_code_30 : decode jdk_52_method_21_code 30 = .ok (.i2b, 1) := by decide +kernel
theorem own_d_jdk_52_method_21_code_31 : decode jdk_52_method_21_code 31 = .ok (.bastore, 1) := by decide +kernel
theorem own_d_jdk_52_method_21_code_32 : decode jdk_52_method_21_code 32 = .ok (.iinc 1 1, 3) := by decide +kernel
theorem own_d_jdk_52_method_21_code_35 : decode jdk_52_method_21_code 35 = .ok (.iinc 3 1, 3) := by decide +kernel
theorem own_d_jdk_52_method_21_code_38 : decode jdk_52_method_21_code 38 = .ok (.iinc 5 1, 3) := by decide +kernel
theorem own_d_jdk_52_method_21_code_41 : decode jdk_52_method_21_code 41 = .ok (.goto (-38), 3) := by decide +kernel
theorem own_d_jdk_52_method_21_code_44 : decode jdk_52_method_21_code 44 = .ok (.iload 4, 2) := by decide +kernel
theorem own_d_jdk_52_method_21_code_46 : decode jdk_52_method_21_code 46 = .ok (.ireturn, 1) := by decide +kernel
theorem own_d_jdk_52_method_15_code_0 : decode jdk_52_method_15_code 0 = .ok (.iload_n 1, 1) := by decide +kernel
theorem own_d_jdk_52_method_15_code_1 : decode jdk_52_method_15_code 1 = .ok (.aload_n 0, 1) := by decide +kernel
theorem own_d_jdk_52_method_15_code_2 : decode jdk_52_method_15_code 2 = .ok (.arraylength, 1) := by decide +kernel
theorem own_d_jdk_52_method_15_code_3 : decode jdk_52_method_15_code 3 = .ok (.isub, 1) := by decide +kernel
theorem own_d_jdk_52_method_15_code_4 : decode jdk_52_method_15_code 4 = .ok (.bipush 31, 2) := by decide +kernel
theorem own_d_jdk_52_method_15_code_6 : decode jdk_52_method_15_code 6 = .ok (.iushr, 1) := by decide +kernel
theorem own_d_jdk_52_method_15_code_7 : decode jdk_52_method_15_code 7 = .ok (.i2b, 1) := by decide +kernel
theorem own_d_jdk_52_method_15_code_8 : decode jdk_52_method_15_code 8 = .ok (.ireturn, 1) := by decide +kernel
theorem own_d_jdk_52_method_16_code_0 : decode jdk_52_method_16_code 0 = .ok (.iload_n 2, 1) := by decide +kernel
theorem own_d_jdk_52_method_16_code_1 : decode jdk_52_method_16_code 1 = .ok (.newarray .byte, 2) := by decide +kernel
theorem own_d_jdk_52_method_16_code_3 : decode jdk_52_method_16_code 3 = .ok (.astore_n 3, 1) := by decide +kernel
theorem own_d_jdk_52_method_16_code_4 : decode jdk_52_method_16_code 4 = .ok (.aload_n 0, 1) := by decide +kernel
theorem own_d_jdk_52_method_16_code_5 : decode jdk_52_method_16_code 5 = .ok (.iload_n 1, 1) := by decide +kernel
theorem own_d_jdk_52_method_16_code_6 : decode jdk_52_method_16_code 6 = .ok (.aload_n 3, 1) := by decide +kernel
theorem own_d_jdk_52_method_16_code_7 : decode jdk_52_method_16_code 7 = .ok (.iconst 0, 1) := by decide +kernel
theorem own_d_jdk_52_method_16_code_8 : decode jdk_52_method_16_code 8 = .ok (.iload_n 2, 1) := by decide +kernel
theorem own_d_jdk_52_method_16_code_9 : decode jdk_52_method_16_code 9 = .ok (.invokestatic 115, 3) := by decide +kernel
theorem own_d_jdk_52_method_16_code_12 : decode jdk_52_method_16_code 12 = .ok (.istore 4, 2) := by decide +kernel
theorem own_d_jdk_52_method_16_code_14 : decode jdk_52_method_16_code 14 = .ok (.iload 4, 2) := by decide +kernel
theorem own_d_jdk_52_method_16_code_16 : decode jdk_52_method_16_code 16 = .ok (.iload_n 2, 1) := by decide +kernel
theorem own_d_jdk_52_method_16_code_17 : decode jdk_52_method_16_code 17 = .ok (.if_icmp .eq 40, 3) := by decide +kernel
theorem own_d_jdk_52_method_16_code_57 : decode jdk_52_method_16_code 57 = .ok (.aload_n 3, 1) := by decide +kernel
theorem own_d_jdk_52_method_16_code_58 : decode jdk_52_method_16_code 58 = .ok (.areturn, 1) := by decide +kernel
theorem own_d_jdk_52_method_16_code_20 : decode jdk_52_method_16_code 20 = .ok (.aload_n 0, 1) := by decide +kernel
theorem own_d_jdk_52_method_16_code_21 : decode jdk_52_method_16_code 21 = .ok (.iload_n 1, 1) := by decide +kernel
theorem own_d_jdk_52_method_16_code_22 : decode jdk_52_method_16_code 22 = .ok (.iload_n 2, 1) := by decide +kernel
theorem own_d_jdk_52_method_16_code_23 : decode jdk_52_method_16_code 23 = .ok (.invokestatic 119, 3) := by decide +kernel
theorem own_d_jdk_52_method_16_code_26 : decode jdk_52_method_16_code 26 = .ok (.astore 5, 2) := by decide +kernel
theorem own_d_jdk_52_method_16_code_28 : decode jdk_52_method_16_code 28 = .ok (.aload 5, 2) := by decide +kernel
theorem own_d_jdk_52_method_16_code_30 : decode jdk_52_method_16_code 30 = .ok (.iload 4, 2) := by decide +kernel
theorem own_d_jdk_52_method_16_code_32 : decode jdk_52_method_16_code 32 = .ok (.invokestatic 71, 3) := by decide +kernel
theorem own_d_jdk_52_method_16_code_35 : decode jdk_52_method_16_code 35 = .ok (.sipush 255, 3) := by decide +kernel
theorem own_d_jdk_52_method_16_code_38 : decode jdk_52_method_16_code 38 = .ok (.if_icmp .gt 16, 3) := by decide +kernel
theorem own_d_jdk_52_method_16_code_54 : decode jdk_52_method_16_code 54 = .ok (.aload 5, 2) := by decide +kernel
theorem own_d_jdk_52_method_16_code_56 : decode jdk_52_method_16_code 56 = .ok (.areturn, 1) := by decide +kernel
theorem own_d_jdk_42_method_149_code_0 : decode jdk_42_method_149_code 0 = .ok (.aload_n 0, 1) := by decide +kernel
theorem own_d_jdk_42_method_149_code_1 : decode jdk_42_method_149_code 1 = .ok (.invokespecial 1, 3) := by decide +kernel
theorem own_d_jdk_42_method_149_code_4 : decode jdk_42_method_149_code 4 = .ok (.iload_n 3, 1) := by decide +kernel
theorem own_d_jdk_42_method_149_code_5 : decode jdk_42_method_149_code 5 = .ok (.ifCond .ne 22, 3) := by decide +kernel
theorem own_d_jdk_42_method_149_code_27 : decode jdk_42_method_149_code 27 = .ok (.getstatic 38, 3) := by decide +kernel
theorem own_d_jdk_42_method_149_code_30 : decode jdk_42_method_149_code 30 = .ok (.ifCond .eq 28, 3) := by decide +kernel
theorem own_d_jdk_42_method_149_code_33 : decode jdk_42_method_149_code 33 = .ok (.aload_n 1, 1) := by decide +kernel
theorem own_d_jdk_42_method_149_code_34 : decode jdk_42_method_149_code 34 = .ok (.iload_n 2, 1) := by decide +kernel
theorem own_d_jdk_42_method_149_code_35 : decode jdk_42_method_149_code 35 = .ok (.iload_n 3, 1) := by decide +kernel
theorem own_d_jdk_42_method_149_code_36 : decode jdk_42_method_149_code 36 = .ok (.invokestatic 177, 3) := by decide +kernel
theorem own_d_jdk_42_method_149_code_39 : decode jdk_42_method_149_code 39 = .ok (.astore 5, 2) := by decide +kernel
theorem own_d_jdk_42_method_149_code_41 : decode jdk_42_method_149_code 41 = .ok (.aload_n 0, 1) := by decide +kernel
theorem own_d_jdk_42_method_149_code_42 : decode jdk_42_method_149_code 42 = .ok (.aload 5, 2) := by decide +kernel
theorem own_d_jdk_42_method_149_code_44 : decode jdk_42_method_149_code 44 = .ok (.iload_n 3, 1) := by decide +kernel
theorem own_d_jdk_42_method_149_code_45 : decode jdk_42_method_149_code 45 = .ok (.invokestatic 47, 3) := by decide +kernel
theorem own_d_jdk_42_method_149_code_48 : decode jdk_42_method_149_code 48 = .ok (.putfield 15, 3) := by decide +kernel
theorem own_d_jdk_42_method_149_code_51 : decode jdk_42_method_149_code 51 = .ok (.aload_n 0, 1) := by decide +kernel
theorem own_d_jdk_42_method_149_code_52 : decode jdk_42_method_149_code 52 = .ok (.aload 5, 2) := by decide +kernel
theorem own_d_jdk_42_method_149_code_54 : decode jdk_42_method_149_code 54 = .ok (.putfield 9, 3) := by decide +kernel
theorem own_d_jdk_42_method_149_code_57 : decode jdk_42_method_149_code 57 = .ok (.return_, 1) := by decide +kernel
theorem own_d_jdk_42_method_3_code_0 : decode jdk_42_method_3_code 0 = .ok (.aload_n 0, 1) := by decide +kernel
theorem own_d_jdk_42_method_3_code_1 : decode jdk_42_method_3_code 1 = .ok (.aload_n 1, 1) := by decide +kernel
theorem own_d_jdk_42_method_3_code_2 : decode jdk_42_method_3_code 2 = .ok (.iconst 0, 1) := by decide +kernel
theorem own_d_jdk_42_method_3_code_3 : decode jdk_42_method_3_code 3 = .ok (.aload_n 1, 1) := by decide +kernel
theorem own_d_jdk_42_method_3_code_4 : decode jdk_42_method_3_code 4 = .ok (.arraylength, 1) := by decide +kernel
theorem own_d_jdk_42_method_3_code_5 : decode jdk_42_method_3_code 5 = .ok (.aconst_null, 1) := by decide +kernel
theorem own_d_jdk_42_method_3_code_6 : decode jdk_42_method_3_code 6 = .ok (.invokespecial 27, 3) := by decide +kernel
theorem own_d_jdk_42_method_3_code_9 : decode jdk_42_method_3_code 9 = .ok (.return_, 1) := by decide +kernel
theorem own_d_method_3_code_0 : decode method_3_code 0 = .ok (.iload_n 0, 1) := by decide +kernel
theorem own_d_method_3_code_1 : decode method_3_code 1 = .ok (.iconst 1, 1) := by decide +kernel
theorem own_d_method_3_code_2 : decode method_3_code 2 = .ok (.if_icmp .ne 23, 3) := by decide +kernel
theorem own_d_method_3_code_5 : decode method_3_code 5 = .ok (.iconst 1, 1) := by decide +kernel
theorem own_d_method_3_code_6 : decode method_3_code 6 = .ok (.newarray .char, 2) := by decide +kernel
theorem own_d_method_3_code_8 : decode method_3_code 8 = .ok (.astore 5, 2) := by decide +kernel
theorem own_d_method_3_code_10 : decode method_3_code 10 = .ok (.aload 5, 2) := by decide +kernel
theorem own_d_method_3_code_12 : decode method_3_code 12 = .ok (.iconst 0, 1) := by decide +kernel
theorem own_d_method_3_code_13 : decode method_3_code 13 = .ok (.iload_n 1, 1) := by decide +kernel
theorem own_d_method_3_code_14 : decode method_3_code 14 = .ok (.castore, 1) := by decide +kernel
theorem own_d_method_3_code_15 : decode method_3_code 15 = .ok (.new 21, 3) := by decide +kernel
theorem own_d_method_3_code_18 : decode method_3_code 18 = .ok (.dup, 1) := by decide +kernel
theorem own_d_method_3_code_19 : decode method_3_code 19 = .ok (.aload 5, 2) := by decide +kernel
theorem own_d_method_3_code_21 : decode method_3_code 21 = .ok (.invokespecial 30, 3) := by decide +kernel
theorem own_d_method_3_code_24 : decode method_3_code 24 = .ok (.areturn, 1) := by decide +kernel
theorem own_d_method_3_code_25 : decode method_3_code 25 = .ok (.iload_n 0, 1) := by decide +kernel
theorem own_d_method_3_code_26 : decode method_3_code 26 = .ok (.iconst 2, 1) := by decide +kernel
theorem own_d_method_3_code_27 : decode method_3_code 27 = .ok (.if_icmp .ne 28, 3) := by decide +kernel
theorem own_d_method_3_code_30 : decode method_3_code 30 = .ok (.iconst 2, 1) := by decide +kernel
theorem own_d_method_3_code_31 : decode method_3_code 31 = .ok (.newarray .char, 2) := by decide +kernel
theorem own_d_method_3_code_33 : decode method_3_code 33 = .ok (.astore 5, 2) := by decide +kernel
theorem own_d_method_3_code_35 : decode method_3_code 35 = .ok (.aload 5, 2) := by decide +kernel
theorem own_d_method_3_code_37 : decode method_3_code 37 = .ok (.iconst 0, 1) := by decide +kernel
theorem own_d_method_3_code_38 : decode method_3_code 38 = .ok (.iload_n 1, 1) := by decide +kernel
theorem own_d_method_3_code_39 : decode method_3_code 39 = .ok (.castore, 1) := by decide +kernel
theorem own_d_method_3_code_40 : decode method_3_code 40 = .ok (.aload 5, 2) := by decide +kernel
theorem own_d_method_3_code_42 : decode method_3_code 42 = .ok (.iconst 1, 1) := by decide +kernel
theorem own_d_method_3_code_43 : decode method_3_code 43 = .ok (.iload_n 2, 1) := by decide +kernel
theorem own_d_method_3_code_44 : decode method_3_code 44 = .ok (.castore, 1) := by decide +kernel
theorem own_d_method_3_code_45 : decode method_3_code 45 = .ok (.new 21, 3) := by decide +kernel
theorem own_d_method_3_code_48 : decode method_3_code 48 = .ok (.dup, 1) := by decide +kernel
theorem own_d_method_3_code_49 : decode method_3_code 49 = .ok (.aload 5, 2) := by decide +kernel
theorem own_d_method_3_code_51 : decode method_3_code 51 = .ok (.invokespecial 30, 3) := by decide +kernel
theorem own_d_method_3_code_54 : decode method_3_code 54 = .ok (.areturn, 1) := by decide +kernel
theorem own_d_method_3_code_55 : decode method_3_code 55 = .ok (.iload_n 0, 1) := by decide +kernel
theorem own_d_method_3_code_56 : decode method_3_code 56 = .ok (.iconst 3, 1) := by decide +kernel
theorem own_d_method_3_code_57 : decode method_3_code 57 = .ok (.if_icmp .ne 33, 3) := by decide +kernel
theorem own_d_method_3_code_60 : decode method_3_code 60 = .ok (.iconst 3, 1) := by decide +kernel
theorem own_d_method_3_code_61 : decode method_3_code 61 = .ok (.newarray .char, 2) := by decide +kernel
theorem own_d_method_3_code_63 : decode method_3_code 63 = .ok (.astore 5, 2) := by decide +kernel
theorem own_d_method_3_code_65 : decode method_3_code 65 = .ok (.aload 5, 2) := by decide +kernel
theorem own_d_method_3_code_67 : decode method_3_code 67 = .ok (.iconst 0, 1) := by decide +kernel
theorem own_d_method_3_code_68 : decode method_3_code 68 = .ok (.iload_n 1, 1) := by decide +kernel
theorem own_d_method_3_code_69 : decode method_3_code 69 = .ok (.castore, 1) := by decide +kernel
theorem own_d_method_3_code_70 : decode method_3_code 70 = .ok (.aload 5, 2) := by decide +kernel
theorem own_d_method_3_code_72 : decode method_3_code 72 = .ok (.iconst 1, 1) := by decide +kernel
theorem own_d_method_3_code_73 : decode method_3_code 73 = .ok (.iload_n 2, 1) := by decide +kernel
theorem own_d_method_3_code_74 : decode method_3_code 74 = .ok (.castore, 1) := by decide +kernel
theorem own_d_method_3_code_75 : decode method_3_code 75 = .ok (.aload 5, 2) := by decide +kernel
theorem own_d_method_3_code_77 : decode method_3_code 77 = .ok (.iconst 2, 1) := by decide +kernel
theorem own_d_method_3_code_78 : decode method_3_code 78 = .ok (.iload_n 3, 1) := by decide +kernel
theorem own_d_method_3_code_79 : decode method_3_code 79 = .ok (.castore, 1) := by decide +kernel
theorem own_d_method_3_code_80 : decode method_3_code 80 = .ok (.new 21, 3) := by decide +kernel
theorem own_d_method_3_code_83 : decode method_3_code 83 = .ok (.dup, 1) := by decide +kernel
theorem own_d_method_3_code_84 : decode method_3_code 84 = .ok (.aload 5, 2) := by decide +kernel
theorem own_d_method_3_code_86 : decode method_3_code 86 = .ok (.invokespecial 30, 3) := by decide +kernel
theorem own_d_method_3_code_89 : decode method_3_code 89 = .ok (.areturn, 1) := by decide +kernel
theorem own_d_method_3_code_90 : decode method_3_code 90 = .ok (.iconst 4, 1) := by decide +kernel
theorem own_d_method_3_code_91 : decode method_3_code 91 = .ok (.newarray .char, 2) := by decide +kernel
theorem own_d_method_3_code_93 : decode method_3_code 93 = .ok (.astore 5, 2) := by decide +kernel
theorem own_d_method_3_code_95 : decode method_3_code 95 = .ok (.aload 5, 2) := by decide +kernel
theorem own_d_method_3_code_97 : decode method_3_code 97 = .ok (.iconst 0, 1) := by decide +kernel
theorem own_d_method_3_code_98 : decode method_3_code 98 = .ok (.iload_n 1, 1) := by decide +kernel
theorem own_d_method_3_code_99 : decode method_3_code 99 = .ok (.castore, 1) := by decide +kernel
theorem own_d_method_3_code_100 : decode method_3_code 100 = .ok (.aload 5, 2) := by decide +kernel
theorem own_d_method_3_code_102 : decode method_3_code 102 = .ok (.iconst 1, 1) := by decide +kernel
theorem own_d_method_3_code_103 : decode method_3_code 103 = .ok (.iload_n 2, 1) := by decide +kernel
theorem own_d_method_3_code_104 : decode method_3_code 104 = .ok (.castore, 1) := by decide +kernel
theorem own_d_method_3_code_105 : decode method_3_code 105 = .ok (.aload 5, 2) := by decide +kernel
theorem own_d_method_3_code_107 : decode method_3_code 107 = .ok (.iconst 2, 1) := by decide +kernel
theorem own_d_method_3_code_108 : decode method_3_code 108 = .ok (.iload_n 3, 1) := by decide +kernel
theorem own_d_method_3_code_109 : decode method_3_code 109 = .ok (.castore, 1) := by decide +kernel
theorem own_d_method_3_code_110 : decode method_3_code 110 = .ok (.aload 5, 2) := by decide +kernel
theorem own_d_method_3_code_112 : decode method_3_code 112 = .ok (.iconst 3, 1) := by decide +kernel
theorem own_d_method_3_code_113 : decode method_3_code 113 = .ok (.iload 4, 2) := by decide +kernel
theorem own_d_method_3_code_115 : decode method_3_code 115 = .ok (.castore, 1) := by decide +kernel
theorem own_d_method_3_code_116 : decode method_3_code 116 = .ok (.new 21, 3) := by decide +kernel
theorem own_d_method_3_code_119 : decode method_3_code 119 = .ok (.dup, 1) := by decide +kernel
theorem own_d_method_3_code_120 : decode method_3_code 120 = .ok (.aload 5, 2) := by decide +kernel
theorem own_d_method_3_code_122 : decode method_3_code 122 = .ok (.invokespecial 30, 3) := by decide +kernel
theorem own_d_method_3_code_125 : decode method_3_code 125 = .ok (.areturn, 1) := by decide +kernel
theorem own_d_prog_1_method_2_code_0 : decode prog_1_method_2_code 0 = .ok (.aload_n 0, 1) := by decide +kernel
theorem own_d_prog_1_method_2_code_1 : decode prog_1_method_2_code 1 = .ok (.ifnull 10, 3) := by decide +kernel
theorem own_d_prog_1_method_2_code_4 : decode prog_1_method_2_code 4 = .ok (.aload_n 0, 1) := by decide +kernel
theorem own_d_prog_1_method_2_code_5 : decode prog_1_method_2_code 5 = .ok (.invokevirtual 7, 3) := by decide +kernel
theorem own_d_prog_1_method_2_code_8 : decode prog_1_method_2_code 8 = .ok (.ifCond .eq 27, 3) := by decide +kernel
theorem own_d_prog_1_method_2_code_35 : decode prog_1_method_2_code 35 = .ok (.aload_n 0, 1) := by decide +kernel
theorem own_d_prog_1_method_2_code_36 : decode prog_1_method_2_code 36 = .ok (.areturn, 1) := by decide +kernel
theorem own_pd0 : parseMethodDescriptor "(IILjava/util/function/BiFunction;)I" = some ⟨[.int, .int, (.object "java/util/function/BiFunction")], some .int⟩ := by decide +kernel
theorem own_pd1 : parseMethodDescriptor "([B)I" = some ⟨[(.array .byte)], some .int⟩ := by decide +kernel
theorem own_pd2 : parseMethodDescriptor "(II)V" = some ⟨[.int, .int], none⟩ := by decide +kernel
theorem own_pd3 : parseMethodDescriptor "(I[B)V" = some ⟨[.int, (.array .byte)], none⟩ := by decide +kernel
theorem own_pd4 : parseMethodDescriptor "([BI)C" = some ⟨[(.array .byte), .int], some .char⟩ := by decide +kernel
theorem own_pd5 : parseMethodDescriptor "()Z" = some ⟨[], some .boolean⟩ := by decide +kernel
theorem own_pd6 : parseMethodDescriptor "(I)I" = some ⟨[.int], some .int⟩ := by decide +kernel
theorem own_pd7 : parseMethodDescriptor "(I)[B" = some ⟨[.int], some (.array .byte)⟩ := by decide +kernel
theorem own_pd8 : parseMethodDescriptor "([BII)V" = some ⟨[(.array .byte), .int, .int], none⟩ := by decide +kernel
theorem own_pd9 : parseMethodDescriptor "([CI[BII)I" = some ⟨[(.array .char), .int, (.array .byte), .int, .int], some .int⟩ := by decide +kernel
theorem own_pd10 : parseMethodDescriptor "([CII)[B" = some ⟨[(.array .char), .int, .int], some (.array .byte)⟩ := by decide +kernel
theorem own_pd11 : parseMethodDescriptor "([BI)B" = some ⟨[(.array .byte), .int], some .byte⟩ := by decide +kernel
theorem own_pd12 : parseMethodDescriptor "([CIILjava/lang/Void;)V" = some ⟨[(.array .char), .int, .int, (.object "java/lang/Void")], none⟩ := by decide +kernel
theorem own_pd13 : parseMethodDescriptor "([C)V" = some ⟨[(.array .char)], none⟩ := by decide +kernel
theorem own_pd14 : parseMethodDescriptor "(ICCCC)Ljava/lang/String;" = some ⟨[.int, .char, .char, .char, .char], some (.object "java/lang/String")⟩ := by decide +kernel
theorem own_pd15 : parseMethodDescriptor "(Ljava/lang/String;)Ljava/lang/String;" = some ⟨[(.object "java/lang/String")], some (.object "java/lang/String")⟩ := by decide +kernel
theorem own_pd16 : parseMethodDescriptor "()I" = some ⟨[], some .int⟩ := by decide +kernel
theorem own_pd17 : parseMethodDescriptor "(I)C" = some ⟨[.int], some .char⟩ := by decide +kernel
theorem own_pn0 : plainName "jdk/internal/util/Preconditions" = true := by first | (simp [plainName, overriddenIn]; done) | decide +kernel
theorem own_pn1 : plainName "java/lang/String" = true := by first | (simp [plainName, overriddenIn]; done) | decide +kernel
theorem own_pn2 : plainName "java/lang/StringUTF16" = true := by first | (simp [plainName, overriddenIn]; done) | decide +kernel
theorem own_pn3 : plainName "com/example/sault/sault/ArgumentsLockNamePinLaw" = true := by first | (simp [plainName, overriddenIn]; done) | decide +kernel
theorem own_pn4 : plainName "com/example/sault/sault/Arguments" = true := by first | (simp [plainName, overriddenIn]; done) | decide +kernel
section OwnKit
variable {p : Program} {l : Launch} {e : Env} {R : Room} {s : State} {m : MethodId} {args : Array Value} {below : List Frame} {meth : Method} {c : Code} {T : State} {locs : List Loc} {cells slots : Nat} {Z : State} {h h1 h2 : Heap}
def own_Fin (p : Program) (e : Env) (below : List Frame) (S : State) (P : State → Outcome → Prop) : Prop := ∃ U o, Steps p.tables e below S U ∧ U.status = .running ∧ Ended U below o ∧ P U o
theorem own_st {S S' : State} {P : State → Outcome → Prop} (st : ∀ t, Steps p.tables e below S' t → Steps p.tables e below S t) (k : own_Fin p e below S' P) : own_Fin p e below S P := by
  obtain ⟨U, o, q, r⟩ := k; exact ⟨U, o, st _ q, r⟩
theorem own_tr {S S' : State} {P : State → Outcome → Prop} (st : Steps p.tables e below S S') (k : own_Fin p e below S' P) : own_Fin p e below S P := by
  obtain ⟨U, o, q, r⟩ := k; exact ⟨U, o, st.trans q, r⟩
def own_End (s : State) (Q : Option Value → Heap → List Loc → Prop) (k n : Nat) (U : State) (o : Outcome) : Prop := ∃ v L, o = .returned v ∧ Q v U.heap L ∧ FrameEnd s o U L k n
theorem own_ret (X : Stand p l e R s m args below meth c T locs cells slots) (hx : p.tables.exec = Jvm.exec) {pc : Nat} {Ls : Array Slot} {w : Value} {t : FieldType} {i : Instr} {rest : List Value} (hret : meth.sig.returnType = some t) (hlk : meth.locks = false) (hn : narrow t w = w)
    (hi : (i = .ireturn ∧ (t = .int ∨ t = .boolean ∨ t = .byte ∨ t = .char ∨ t = .short) ∧ ∃ z, w = .int z) ∨ (i = .lreturn ∧ t = .long ∧ ∃ z, w = .long z) ∨ (i = .dreturn ∧ t = .double ∧ ∃ z, w = .double z) ∨ (i = .freturn ∧ t = .float ∧ ∃ z, w = .float z) ∨ (i = .areturn ∧ t.isReference = true ∧ w.isRef = true))
    (hd : decode c.code pc = .ok (i, 1)) {Q : Option Value → Heap → List Loc → Prop} {k n : Nat} (hk : cells ≤ k) (hs : slots ≤ n) (hq : Q (some w) T.heap locs) : own_Fin p e below (T.setTop (mkF m pc Ls (w :: rest))) (own_End s Q k n) := by
  obtain ⟨fs, hr, hrun, hended, hW, hsame⟩ := X.leave (v := some w) (fun q => by rw [hret] at q; cases q) hlk
  exact ⟨_, _, retOut X hx hret hn hi hd hr, hrun, hended, _, _, rfl, hq, ⟨_, rfl⟩, hW, hsame.mono hk hs⟩
theorem own_ret0 (X : Stand p l e R s m args below meth c T locs cells slots) (hx : p.tables.exec = Jvm.exec) {pc : Nat} {Ls : Array Slot} (hret : meth.sig.returnType = none) (hlk : meth.locks = false)
    (hd : decode c.code pc = .ok (.return_, 1)) {Q : Option Value → Heap → List Loc → Prop} {k n : Nat} (hk : cells ≤ k) (hs : slots ≤ n) (hq : Q none T.heap locs) : own_Fin p e below (T.setTop (mkF m pc Ls [])) (own_End s Q k n) := by
  obtain ⟨fs, hr, hrun, hended, hW, hsame⟩ := X.leave (v := none) (fun _ => rfl) hlk
  exact ⟨_, _, X.returnOut hx hret hd hr, hrun, hended, _, _, rfl, hq, ⟨_, rfl⟩, hW, hsame.mono hk hs⟩
def own_EndW (s : State) (Q : Option Value → Heap → Vm → List Loc → Prop) (k n : Nat) (U : State) (o : Outcome) : Prop := ∃ v L, o = .returned v ∧ Q v U.heap U.vm L ∧ ReturnedEndW s o U L k n
abbrev own_Met (l : Launch) (Z : State) (h0 : Heap) (y : MethodName) (by0 : ByteArray) (mx : Nat) (rt : Option FieldType) (ws : List Jvm.Cond) (rm : Room) (as : Array Value) (Q : Option Value → Heap → List Loc → Prop) : Prop :=
  MetFree l y (head1 (Jvm.Cond.code y by0 mx rt :: ws) rm) (fun a U => a = as ∧ Z.Warmed39 U.vm ∧ U.heap = h0) (fun _ _ _ _ _ => True) (fun _ U o U' => ∃ v L, o = .returned v ∧ Q v U'.heap L ∧ FrameEnd U o U' L rm.cells rm.slots)
theorem own_enter {h0 : Heap} {C N D : String} {by0 : ByteArray} {mx : Nat} {rt : Option FieldType} {ws : List Jvm.Cond} {rm : Room} {as : Array Value} {Q : Option Value → Heap → List Loc → Prop} (hp : plainFor ⟨C, N, D⟩ = true)
    (H : ∀ (p : Program) (e : Env) (s : State) (m : MethodId) (below : List Frame) (meth : Method) (c : Code) (s₁ : State), p.tables.exec = Jvm.exec → c.code = by0 → meth.locks = false → c.maxLocals = mx → s.vm.findClass C = some m.cls → meth.name = N → meth.sig.returnType = rt → Z.Warmed39 s.vm → Stand p l e rm s m as below meth c s₁ [] 0 0 → s₁.heap = h0 →
      own_Fin p e below (s₁.setTop (entryFrame m as mx)) (own_End s Q rm.cells rm.slots)) : own_Met l Z h0 ⟨C, N, D⟩ by0 mx rt ws rm as Q := by
  refine MetFree.of_bodySF hp hisR ?_
  intro p e s m args below meth c s₁ Bd hml hP hK
  obtain ⟨rfl, hZ, hh⟩ := hP
  exact H p e s m below meth c s₁ Bd.exec Bd.bytes (BodyLoose.notSynchronized Bd) hml (findClass_of_methodNamed Bd.named) (name_of_methodNamed Bd.named Bd.method).1 Bd.returns hZ (Stand.of_body Bd) (by rw [← hh, Bd.state]; rfl)
theorem own_xr (h : Heap) : Ext h h := ⟨Nat.le_refl _, fun _ _ q => q⟩
theorem own_xt (E : Ext h h1) (F : Ext h1 h2) : Ext h h2 := ⟨Nat.le_trans E.1 F.1, fun a c q => F.2 a c (E.2 a c q)⟩
theorem own_xw {a : Addr} {sl : Nat} {v : Value} (E : Ext h h1) (W : Wr h1 h2 a sl v) (q : h.size ≤ a) : Ext h h2 :=
  ⟨Nat.le_trans E.1 (Nat.le_of_eq W.size.symm), fun b c hb => by
    obtain ⟨c', e1, -, -, -, e5, -⟩ := wr_at W (E.2 b c hb)
    have ne : b ≠ a := Nat.ne_of_lt (Nat.lt_of_lt_of_le (Array.getElem?_eq_some_iff.mp hb).1 q)
    rw [← e5 ne]; exact e1⟩
theorem own_xk {ws : List Addr} (E : Ext h h1) (K : Keep h1 h2 ws) (q : ∀ x ∈ ws, h.size ≤ x) : Ext h h2 :=
  ⟨Nat.le_trans E.1 K.1, fun b c hb => K.2.1 b c (E.2 b c hb) fun z => absurd (Array.getElem?_eq_some_iff.mp hb).1 (Nat.not_lt.mpr (q b z))⟩
theorem own_kx (E : Ext h h1) (ws : List Addr) : Keep h h1 ws := ⟨E.1, fun a c q _ => E.2 a c q, fun a c q => ⟨c, E.2 a c q, rfl, rfl, rfl⟩⟩
theorem own_slot {v w : Value} (q : v = w) : Slot.val v = Slot.val w := by rw [q]
end OwnKit

section OwnStr
variable {p : Program} {l : Launch} {e : Env} {R : Room} {s : State} {args : Array Value} {below : List Frame} {len W : Nat} {Z : State} {a0 : Array Value} {h h' : Heap} {x y : Addr} {cs ds : List Int32} {z : Int32}
def own_Str (Z : State) (h : Heap) (x : Addr) (cs : List Int32) : Prop := ∃ (t : Addr) (kb : ClassId) (cd N : Int32) (vs : List Value), Exa Z h x "java/lang/String" ∧ Fld Z h x "java/lang/String" "value" "[B" (.ref t) ∧ Fld Z h x "java/lang/String" "coder" "B" (.int cd) ∧ Arv Z h t kb .byte N vs (.int 0) ∧ StrChars.Road.CodA cs cd N vs ∧ (∀ c ∈ cs, ¬ c < 0 ∧ ¬ (65535 : Int32) < c) ∧ cs.length ≤ 4000
theorem own_Str.ext (F : own_Str Z h x cs) (E : Ext h h') : own_Str Z h' x cs := by
  obtain ⟨t, kb, cd, N, vs, q1, q2, q3, q4, r⟩ := F; exact ⟨t, kb, cd, N, vs, q1.ext E, q2.ext E, q3.ext E, q4.ext E, r⟩
theorem own_Str.exa (F : own_Str Z h x cs) : Exa Z h x "java/lang/String" := by obtain ⟨t, kb, cd, N, vs, q1, -⟩ := F; exact q1
theorem own_Str.lt (F : own_Str Z h x cs) : x < h.size := F.exa.lt


theorem own_lenB (hZ : Z.Warmed39 s.vm) (hw : ∀ d ∈ tables_1, d.before a0 Z = true) (A : own_Str Z h x cs) (S : Sta Z h "java/lang/String" "COMPACT_STRINGS" "Z" (.int z)) (hz : ¬ z = 0) (hfr : 2 ≤ R.frames) (hlo : W + 25 ≤ R.locals) :
    Back l R p e below s args (⟨"java/lang/String", "length", "()I"⟩ : MethodName) len W (fun P a => a = #[.ref x] ∧ P.U.heap = h ∧ P.cells + 0 ≤ R.cells ∧ P.slots + 0 ≤ R.slots)
      (fun P _ v B => ∃ L, (v = some (.int (Int32.ofNat cs.length)) ∧ L = [] ∧ B.U.heap = h) ∧ B.locs = P.locs ++ L ∧ B.cells = P.cells + 0 ∧ B.slots = P.slots + 0) := by
  obtain ⟨t, kb, cd, N, vs, q1, q2, q3, q4, q5, q6, q7⟩ := A
  exact StrChars.Road.lenW hZ (fun d hd => hw d ((by decide +kernel : ∀ d ∈ StrChars.Road.wordsLen, d ∈ tables_1) d hd)) (hw _ own_w7) q1 q2 q3 q4 q5 q6 S hz q7 hfr hlo


theorem own_empB (hZ : Z.Warmed39 s.vm) (hw : ∀ d ∈ tables_1, d.before a0 Z = true) (A : own_Str Z h x cs) (hfr : 1 ≤ R.frames) (hlo : W + 12 ≤ R.locals) :
    Back l R p e below s args (⟨"java/lang/String", "isEmpty", "()Z"⟩ : MethodName) len W (fun P a => a = #[.ref x] ∧ P.U.heap = h ∧ P.cells + 0 ≤ R.cells ∧ P.slots + 0 ≤ R.slots)
      (fun P _ v B => ∃ L, (v = some (.int (if cs.length = 0 then 1 else 0)) ∧ L = [] ∧ B.U.heap = h) ∧ B.locs = P.locs ++ L ∧ B.cells = P.cells + 0 ∧ B.slots = P.slots + 0) := by
  obtain ⟨t, kb, cd, N, vs, q1, q2, q3, q4, q5, q6, q7⟩ := A
  exact StrChars.Road.empW hZ (fun d hd => hw d ((by decide +kernel : ∀ d ∈ StrChars.Road.wordsEmp, d ∈ tables_1) d hd)) (hw _ own_w7) q1 q2 q3 q4 q5 q6 q7 hfr hlo


theorem own_chB (hZ : Z.Warmed39 s.vm) (hw : ∀ d ∈ tables_1, d.before a0 Z = true) {fm : Value} {i : Nat} {j : Int32} (A : own_Str Z h x cs) (hp : ∀ c ∈ cs, ¬ (255 : Int32) < c) (S : Sta Z h "java/lang/String" "COMPACT_STRINGS" "Z" (.int z)) (hz : ¬ z = 0) (F : Sta Z h "jdk/internal/util/Preconditions" "SIOOBE_FORMATTER" "Ljava/util/function/BiFunction;" fm) (rf : fm.isRef = true) (hi : i < cs.length) (hj : j = Int32.ofNat i) (hfr : 4 ≤ R.frames) (hlo : W + 53 ≤ R.locals) :
    Back l R p e below s args (⟨"java/lang/String", "charAt", "(I)C"⟩ : MethodName) len W (fun P a => a = #[.ref x, .int j] ∧ P.U.heap = h ∧ P.cells + 0 ≤ R.cells ∧ P.slots + 0 ≤ R.slots)
      (fun P _ v B => ∃ L, (v = some (.int (cs.getD i 0)) ∧ L = [] ∧ B.U.heap = h) ∧ B.locs = P.locs ++ L ∧ B.cells = P.cells + 0 ∧ B.slots = P.slots + 0) := by
  obtain ⟨t, kb, cd, N, vs, q1, q2, q3, q4, q5, q6, q7⟩ := A
  have hcd : cd = 0 := by
    rcases q5 with q | ⟨-, -, -, c, hc, q⟩
    · exact q.1
    · exact absurd q (hp c hc)
  subst hcd
  exact StrChars.Road.chN hZ (fun d hd => hw d ((by decide +kernel : ∀ d ∈ StrChars.Road.wordsChN, d ∈ tables_1) d hd)) (hw _ own_w7) q1 q2 q3 q4 q5 q6 S hz F rf q7 hi hj hfr hlo

end OwnStr
theorem own_pickY {v : Option Value} {P : Prop} (h : (v = some (.int 1) ∧ P) ∨ (v = some (.int 0) ∧ ¬ P)) (q : P) : v = some (.int 1) ∧ True := ⟨h.elim (fun r => r.1) fun r => absurd q r.2, trivial⟩
theorem own_pickN {v : Option Value} {P : Prop} (h : (v = some (.int 1) ∧ P) ∨ (v = some (.int 0) ∧ ¬ P)) (q : ¬ P) : v = some (.int 0) ∧ True := ⟨h.elim (fun r => absurd r.2 q) fun r => r.1, trivial⟩

theorem own_nb (c : Int32) : nar .byte c.toInt8.toInt32 = StrChars.lo8 c := by simp [nar, StrChars.lo8]
theorem own_nb0 (c : Int32) : nar .byte (c >>> ((0 : Int32) &&& 31)).toInt8.toInt32 = StrChars.lo8 c := by rw [own_nb, StrChars.shr0]
theorem own_nb8 (c : Int32) : nar .byte (c >>> ((8 : Int32) &&& 31)).toInt8.toInt32 = StrChars.hi8 c := own_nb _
theorem own_nc (c : Int32) : nar .char c.toUInt32.toUInt16.toUInt32.toInt32 = c.toUInt32.toUInt16.toUInt32.toInt32 := by simp only [nar, UInt32.toUInt32_toInt32, UInt16.toUInt16_toUInt32]
theorem own_nch (c : Int32) : narrow .char (.int c.toUInt32.toUInt16.toUInt32.toInt32) = .int c.toUInt32.toUInt16.toUInt32.toInt32 := congrArg Value.int (own_nc c)
theorem own_chr {x y : Int32} (h : (x.toUInt32.toUInt16.toUInt32.toInt32) = y) : (¬ y < 0 ∧ ¬ (65535 : Int32) < y) ∧ nar .char y = y := by
  subst h
  refine ⟨⟨?_, ?_⟩, own_nc _⟩ <;> rw [Int32.lt_iff_toInt_lt] <;> (have := c_i2c x) <;> (have q : (65535 : Int32).toInt = 65535 := by decide) <;> (have q0 : (0 : Int32).toInt = 0 := by decide) <;> omega
theorem own_four (x : Int32) : (x &&& (3 : Int32)) = 0 ∨ (x &&& (3 : Int32)) = 1 ∨ (x &&& (3 : Int32)) = 2 ∨ (x &&& (3 : Int32)) = 3 := by
  have := c_and x 3 (by decide)
  have q0 : (0 : Int32).toInt = 0 := by decide
  have q1 : (1 : Int32).toInt = 1 := by decide
  have q2 : (2 : Int32).toInt = 2 := by decide
  have q3 : (3 : Int32).toInt = 3 := by decide
  simp only [← Int32.toInt_inj]
  omega
def own_Q_pck (Z : State) (i0 : Int32) (h0 : Heap) (n0 : Nat) (v : Option Value) (h : Heap) (L : List Loc) : Prop := v = some (.int i0) ∧ Fr n0 L ∧ h = h0
theorem own_ef_pck (m : MethodId) (i0 m0 : Int32) (G3 : Value) (P3 : G3.isRef = true) : entryFrame m #[(.int i0), (.int m0), G3] 3 = mkF m 0 #[.val (.int i0), .val (.int m0), .val G3] [] := by rcases ref_cases P3 with rfl | ⟨a, rfl⟩ <;> first | (simp [entryFrame, mkF, argsToLocals, Value.category, maxLocals]; done) | rfl
set_option maxRecDepth 65536 in
set_option maxHeartbeats 40000000 in
theorem own_rm_pck (l : Launch) (Z : State) (a0 : Array Value) (hw : ∀ d ∈ tables_1, d.before a0 Z = true) (G1 : Int32) (S1 : Sta Z Z.heap "java/lang/String" "COMPACT_STRINGS" "Z" (.int G1)) (P1 : ¬ G1 = 0) (G3 : Value) (S3 : Sta Z Z.heap "jdk/internal/util/Preconditions" "SIOOBE_FORMATTER" "Ljava/util/function/BiFunction;" G3) (P3 : G3.isRef = true) (S4 : Sta Z Z.heap "java/lang/StringUTF16" "$assertionsDisabled" "Z" (.int (1 : Int32))) (S5 : Sta Z Z.heap "java/lang/StringUTF16" "HI_BYTE_SHIFT" "I" (.int (0 : Int32))) (S6 : Sta Z Z.heap "java/lang/StringUTF16" "LO_BYTE_SHIFT" "I" (.int (8 : Int32))) (ws : List Jvm.Cond) (i0 m0 : Int32) (h0 : Heap) (n0 : Nat) (Z0 : n0 ≤ h0.size) (XO : Old Z n0 h0) (hi0 : ¬ (i0 < (0 : Int32))) (hi1 : i0 < m0) :
    own_Met l Z h0 (⟨"jdk/internal/util/Preconditions", "checkIndex", "(IILjava/util/function/BiFunction;)I"⟩ : MethodName) jdk_41_method_11_code 3 (some .int) ws { frames := 0, cells := 0, slots := 0, locals := 0 } #[(.int i0), (.int m0), G3] (own_Q_pck Z i0 h0 n0) := by
  refine own_enter (plainFor_of_name own_pn0) (fun p e s m below meth c s₁ hx hby hlk hml hown hnm hret hZ X0 e0 => ?_)
  have N0 := Fr.nil n0
  refine own_st (S' := s₁.setTop (mkF m 0 #[.val (.int i0), .val (.int m0), .val G3] [])) (fun _ k => castTop (own_ef_pck m i0 m0 G3 P3) k) ?_
  refine own_st (S' := s₁.setTop (mkF m 6 #[.val (.int i0), .val (.int m0), .val G3] [(.int m0), (.int i0)])) (fun _ k => XS.iloadN X0.here hx rfl (hb hby own_d_jdk_41_method_11_code_0) rfl (XS.ifNo X0.here hx rfl (hb hby own_d_jdk_41_method_11_code_1) rfl ((if0 _ _).trans (flt hi0).1) (XS.iloadN X0.here hx rfl (hb hby own_d_jdk_41_method_11_code_4) rfl (XS.iloadN X0.here hx rfl (hb hby own_d_jdk_41_method_11_code_5) rfl k)))) ?_
  refine own_st (S' := s₁.setTop (mkF m 17 #[.val (.int i0), .val (.int m0), .val G3] [(.int i0)])) (fun _ k => XS.icmpYes X0.here hx rfl (pc0 := 6) (pc' := 16) rfl (hb hby own_d_jdk_41_method_11_code_6) rfl (tlt hi1).1 (by decide) (by decide) (XS.iloadN X0.here hx rfl (hb hby own_d_jdk_41_method_11_code_16) rfl k)) ?_
  refine own_ret X0 hx hret hlk rfl (Or.inl ⟨rfl, (by simp), _, rfl⟩) (hb hby own_d_jdk_41_method_11_code_17) (by decide) (by decide) ?_
  rw [e0]
  exact ⟨rfl, N0, rfl⟩
def own_Q_sck (Z : State) (h0 : Heap) (n0 : Nat) (v : Option Value) (h : Heap) (L : List Loc) : Prop := v = none ∧ Fr n0 L ∧ h = h0
theorem own_ef_sck (m : MethodId) (i0 : Int32) (m0 : Int32) : entryFrame m #[(.int i0), (.int m0)] 2 = mkF m 0 #[.val (.int i0), .val (.int m0)] [] := by first | (simp [entryFrame, mkF, argsToLocals, Value.category, maxLocals]; done) | rfl
set_option maxRecDepth 65536 in
set_option maxHeartbeats 40000000 in
theorem own_rm_sck (l : Launch) (Z : State) (a0 : Array Value) (hw : ∀ d ∈ tables_1, d.before a0 Z = true) (G1 : Int32) (S1 : Sta Z Z.heap "java/lang/String" "COMPACT_STRINGS" "Z" (.int G1)) (P1 : ¬ G1 = 0) (G3 : Value) (S3 : Sta Z Z.heap "jdk/internal/util/Preconditions" "SIOOBE_FORMATTER" "Ljava/util/function/BiFunction;" G3) (P3 : G3.isRef = true) (S4 : Sta Z Z.heap "java/lang/StringUTF16" "$assertionsDisabled" "Z" (.int (1 : Int32))) (S5 : Sta Z Z.heap "java/lang/StringUTF16" "HI_BYTE_SHIFT" "I" (.int (0 : Int32))) (S6 : Sta Z Z.heap "java/lang/StringUTF16" "LO_BYTE_SHIFT" "I" (.int (8 : Int32))) (ws : List Jvm.Cond) (i0 m0 : Int32) (h0 : Heap) (n0 : Nat) (Z0 : n0 ≤ h0.size) (XO : Old Z n0 h0) (hi0 : ¬ (i0 < (0 : Int32))) (hi1 : i0 < m0) :
    own_Met l Z h0 (⟨"java/lang/String", "checkIndex", "(II)V"⟩ : MethodName) jdk_42_method_155_code 2 (none) ws { frames := 1, cells := 0, slots := 0, locals := 14 } #[(.int i0), (.int m0)] (own_Q_sck Z h0 n0) := by
  refine own_enter (plainFor_of_name own_pn1) (fun p e s m below meth c s₁ hx hby hlk hml hown hnm hret hZ X0 e0 => ?_)
  have N0 := Fr.nil n0
  refine own_st (S' := s₁.setTop (mkF m 0 #[.val (.int i0), .val (.int m0)] [])) (fun _ k => castTop (own_ef_sck m i0 m0) k) ?_
  refine own_st (S' := s₁.setTop (mkF m 2 #[.val (.int i0), .val (.int m0)] [(.int m0), (.int i0)])) (fun _ k => XS.iloadN X0.here hx rfl (hb hby own_d_jdk_42_method_155_code_0) rfl (XS.iloadN X0.here hx rfl (hb hby own_d_jdk_42_method_155_code_1) rfl k)) ?_
  have S101 : Sta Z h0 "jdk/internal/util/Preconditions" "SIOOBE_FORMATTER" "Ljava/util/function/BiFunction;" G3 := (S3.ext XO.2)
  obtain ⟨T102, X102, e102, st102⟩ := getS2 X0 hx hZ hown (host := "") (Or.inl (hw _ own_w71)) Via.refl e0 S101 (g := (mkF m 2 #[.val (.int i0), .val (.int m0)] [(.int m0), (.int i0)])) rfl (hb hby own_d_jdk_42_method_155_code_2)
  refine own_st (S' := T102.setTop (mkF m 5 #[.val (.int i0), .val (.int m0)] [G3, (.int m0), (.int i0)])) st102 ?_
  obtain ⟨_, _, ⟨T103, L103, k103, n103⟩, -, X103, ⟨Lc103, hQ103, l103, y103, z103⟩, st103⟩ := Jvm.LawKit.callS X102 hx (y := (⟨"jdk/internal/util/Preconditions", "checkIndex", "(IILjava/util/function/BiFunction;)I"⟩ : MethodName)) hown (mvT hZ (hw _ own_w73)) (mvT hZ (hw _ own_w74)) (mvT hZ (hw _ own_w72)) (mvT hZ (hw _ own_w75)) (by decide) (backOf (W := 0) (own_rm_pck l Z a0 hw G1 S1 P1 G3 S3 P3 S4 S5 S6 [] i0 m0 h0 n0 (Nat.le_trans Z0 (Nat.le_refl _)) XO hi0 hi1) hZ (hw _ own_w75) (hw _ own_w72) (by decide) (by decide)) (g := (mkF m 5 #[.val (.int i0), .val (.int m0)] [G3, (.int m0), (.int i0)])) rfl (by rw [hml]; rfl) (argsL := [(.int i0), (.int m0), G3]) (rest := []) (lenOf own_pd0 rfl) rfl (by show 2 * 0 + _ ≤ _; exact Nat.le_of_eq rfl) (hb hby own_d_jdk_42_method_155_code_5) (fun _ _ => ⟨rfl, e102, (by decide : 0 + 0 ≤ _), (by decide : 0 + 0 ≤ _)⟩)
  dsimp only [Pt.U, Pt.locs, Pt.cells, Pt.slots] at X103 l103 y103 z103 st103 hQ103
  subst l103 y103 z103
  obtain ⟨rfl, M103, e103⟩ := hQ103
  have N103 := Fr.app N0 M103
  refine own_st (S' := T103.setTop (mkF m 8 #[.val (.int i0), .val (.int m0)] [(.int i0)])) st103 ?_
  refine own_st (S' := T103.setTop (mkF m 9 #[.val (.int i0), .val (.int m0)] [])) (fun _ k => XS.pop X103.here hx rfl (hb hby own_d_jdk_42_method_155_code_8) rfl rfl k) ?_
  refine own_ret0 X103 hx hret hlk (hb hby own_d_jdk_42_method_155_code_9) (by decide) (by decide) ?_
  rw [e103]
  exact ⟨rfl, N103, rfl⟩
def own_Q_len (Z : State) (m1 : Int32) (h0 : Heap) (n0 : Nat) (v : Option Value) (h : Heap) (L : List Loc) : Prop := v = some (.int (m1 >>> ((1 : Int32) &&& 31))) ∧ Fr n0 L ∧ h = h0
theorem own_ef_len (m : MethodId) (d0 : Addr) : entryFrame m #[(.ref d0)] 1 = mkF m 0 #[.val (.ref d0)] [] := by first | (simp [entryFrame, mkF, argsToLocals, Value.category, maxLocals]; done) | rfl
set_option maxRecDepth 65536 in
set_option maxHeartbeats 40000000 in
theorem own_rm_len (l : Launch) (Z : State) (a0 : Array Value) (hw : ∀ d ∈ tables_1, d.before a0 Z = true) (G1 : Int32) (S1 : Sta Z Z.heap "java/lang/String" "COMPACT_STRINGS" "Z" (.int G1)) (P1 : ¬ G1 = 0) (G3 : Value) (S3 : Sta Z Z.heap "jdk/internal/util/Preconditions" "SIOOBE_FORMATTER" "Ljava/util/function/BiFunction;" G3) (P3 : G3.isRef = true) (S4 : Sta Z Z.heap "java/lang/StringUTF16" "$assertionsDisabled" "Z" (.int (1 : Int32))) (S5 : Sta Z Z.heap "java/lang/StringUTF16" "HI_BYTE_SHIFT" "I" (.int (0 : Int32))) (S6 : Sta Z Z.heap "java/lang/StringUTF16" "LO_BYTE_SHIFT" "I" (.int (8 : Int32))) (ws : List Jvm.Cond) (d0 : Addr) (k0 : ClassId) (m1 : Int32) (vs : List Value) (h0 : Heap) (n0 : Nat) (Z0 : n0 ≤ h0.size) (XO : Old Z n0 h0) (V1 : Arv Z h0 d0 k0 .byte m1 vs (.int (0 : Int32))) :
    own_Met l Z h0 (⟨"java/lang/StringUTF16", "length", "([B)I"⟩ : MethodName) jdk_52_method_6_code 1 (some .int) ws { frames := 0, cells := 0, slots := 0, locals := 0 } #[(.ref d0)] (own_Q_len Z m1 h0 n0) := by
  refine own_enter (plainFor_of_name own_pn2) (fun p e s m below meth c s₁ hx hby hlk hml hown hnm hret hZ X0 e0 => ?_)
  have N0 := Fr.nil n0
  refine own_st (S' := s₁.setTop (mkF m 0 #[.val (.ref d0)] [])) (fun _ k => castTop (own_ef_len m d0) k) ?_
  refine own_st (S' := s₁.setTop (mkF m 1 #[.val (.ref d0)] [(.ref d0)])) (fun _ k => XS.aloadN X0.here hx rfl (hb hby own_d_jdk_52_method_6_code_0) rfl rfl k) ?_
  obtain ⟨c101, A101, q101, S101, M101, H101, U101⟩ := id V1
  refine own_st (S' := s₁.setTop (mkF m 2 #[.val (.ref d0)] [(.int m1)])) (len_of S101 M101 ▸ X0.arraylength hx (by rw [e0]; exact A101.1) (State.isArrayOf_alike hZ.alike A101.2.1) (g := (mkF m 1 #[.val (.ref d0)] [(.ref d0)])) rfl rfl (hb hby own_d_jdk_52_method_6_code_1)) ?_
  refine own_st (S' := s₁.setTop (mkF m 4 #[.val (.ref d0)] [(.int (m1 >>> ((1 : Int32) &&& 31)))])) (fun _ k => XS.iconst X0.here hx rfl (hb hby own_d_jdk_52_method_6_code_2) (XS.ishr X0.here hx rfl (hb hby own_d_jdk_52_method_6_code_3) rfl k)) ?_
  refine own_ret X0 hx hret hlk rfl (Or.inl ⟨rfl, (by simp), _, rfl⟩) (hb hby own_d_jdk_52_method_6_code_4) (by decide) (by decide) ?_
  rw [e0]
  exact ⟨rfl, N0, rfl⟩
def own_Q_uck (Z : State) (h0 : Heap) (n0 : Nat) (v : Option Value) (h : Heap) (L : List Loc) : Prop := v = none ∧ Fr n0 L ∧ h = h0
theorem own_ef_uck (m : MethodId) (i0 : Int32) (d0 : Addr) : entryFrame m #[(.int i0), (.ref d0)] 2 = mkF m 0 #[.val (.int i0), .val (.ref d0)] [] := by first | (simp [entryFrame, mkF, argsToLocals, Value.category, maxLocals]; done) | rfl
set_option maxRecDepth 65536 in
set_option maxHeartbeats 40000000 in
theorem own_rm_uck (l : Launch) (Z : State) (a0 : Array Value) (hw : ∀ d ∈ tables_1, d.before a0 Z = true) (G1 : Int32) (S1 : Sta Z Z.heap "java/lang/String" "COMPACT_STRINGS" "Z" (.int G1)) (P1 : ¬ G1 = 0) (G3 : Value) (S3 : Sta Z Z.heap "jdk/internal/util/Preconditions" "SIOOBE_FORMATTER" "Ljava/util/function/BiFunction;" G3) (P3 : G3.isRef = true) (S4 : Sta Z Z.heap "java/lang/StringUTF16" "$assertionsDisabled" "Z" (.int (1 : Int32))) (S5 : Sta Z Z.heap "java/lang/StringUTF16" "HI_BYTE_SHIFT" "I" (.int (0 : Int32))) (S6 : Sta Z Z.heap "java/lang/StringUTF16" "LO_BYTE_SHIFT" "I" (.int (8 : Int32))) (ws : List Jvm.Cond) (i0 : Int32) (d0 : Addr) (k0 : ClassId) (m1 : Int32) (vs : List Value) (h0 : Heap) (n0 : Nat) (Z0 : n0 ≤ h0.size) (XO : Old Z n0 h0) (V1 : Arv Z h0 d0 k0 .byte m1 vs (.int (0 : Int32))) (hi0 : ¬ (i0 < (0 : Int32))) (hi1 : i0 < (m1 >>> ((1 : Int32) &&& 31))) :
    own_Met l Z h0 (⟨"java/lang/StringUTF16", "checkIndex", "(I[B)V"⟩ : MethodName) jdk_52_method_91_code 2 (none) ws { frames := 2, cells := 0, slots := 0, locals := 27 } #[(.int i0), (.ref d0)] (own_Q_uck Z h0 n0) := by
  refine own_enter (plainFor_of_name own_pn2) (fun p e s m below meth c s₁ hx hby hlk hml hown hnm hret hZ X0 e0 => ?_)
  have N0 := Fr.nil n0
  refine own_st (S' := s₁.setTop (mkF m 0 #[.val (.int i0), .val (.ref d0)] [])) (fun _ k => castTop (own_ef_uck m i0 d0) k) ?_
  refine own_st (S' := s₁.setTop (mkF m 2 #[.val (.int i0), .val (.ref d0)] [(.ref d0), (.int i0)])) (fun _ k => XS.iloadN X0.here hx rfl (hb hby own_d_jdk_52_method_91_code_0) rfl (XS.aloadN X0.here hx rfl (hb hby own_d_jdk_52_method_91_code_1) rfl rfl k)) ?_
  obtain ⟨_, _, ⟨T101, L101, k101, n101⟩, -, X101, ⟨Lc101, hQ101, l101, y101, z101⟩, st101⟩ := Jvm.LawKit.callS X0 hx (y := (⟨"java/lang/StringUTF16", "length", "([B)I"⟩ : MethodName)) hown (mvT hZ (hw _ own_w101)) (mvT hZ (hw _ own_w102)) (mvT hZ (hw _ own_w22)) (mvT hZ (hw _ own_w103)) (by decide) (backOf (W := 1) (own_rm_len l Z a0 hw G1 S1 P1 G3 S3 P3 S4 S5 S6 [] d0 k0 m1 vs h0 n0 (Nat.le_trans Z0 (Nat.le_refl _)) XO V1) hZ (hw _ own_w103) (hw _ own_w22) (by decide) (by decide)) (g := (mkF m 2 #[.val (.int i0), .val (.ref d0)] [(.ref d0), (.int i0)])) rfl (by rw [hml]; rfl) (argsL := [(.ref d0)]) (rest := [(.int i0)]) (lenOf own_pd1 rfl) rfl (by show 2 * 0 + _ ≤ _; exact Nat.le_of_eq rfl) (hb hby own_d_jdk_52_method_91_code_2) (fun _ _ => ⟨rfl, e0, (by decide : 0 + 0 ≤ _), (by decide : 0 + 0 ≤ _)⟩)
  dsimp only [Pt.U, Pt.locs, Pt.cells, Pt.slots] at X101 l101 y101 z101 st101 hQ101
  subst l101 y101 z101
  obtain ⟨rfl, M101, e101⟩ := hQ101
  have N101 := Fr.app N0 M101
  refine own_st (S' := T101.setTop (mkF m 5 #[.val (.int i0), .val (.ref d0)] [(.int (m1 >>> ((1 : Int32) &&& 31))), (.int i0)])) st101 ?_
  obtain ⟨_, _, ⟨T102, L102, k102, n102⟩, -, X102, ⟨Lc102, hQ102, l102, y102, z102⟩, st102⟩ := Jvm.LawKit.callS X101 hx (y := (⟨"java/lang/String", "checkIndex", "(II)V"⟩ : MethodName)) hown (mvT hZ (hw _ own_w104)) (mvT hZ (hw _ own_w69)) (mvT hZ (hw _ own_w8)) (mvT hZ (hw _ own_w70)) (by decide) (backOf (W := 0) (own_rm_sck l Z a0 hw G1 S1 P1 G3 S3 P3 S4 S5 S6 [] i0 (m1 >>> ((1 : Int32) &&& 31)) h0 n0 (Nat.le_trans Z0 (Nat.le_refl _)) XO hi0 hi1) hZ (hw _ own_w70) (hw _ own_w8) (by decide) (by decide)) (g := (mkF m 5 #[.val (.int i0), .val (.ref d0)] [(.int (m1 >>> ((1 : Int32) &&& 31))), (.int i0)])) rfl (by rw [hml]; rfl) (argsL := [(.int i0), (.int (m1 >>> ((1 : Int32) &&& 31)))]) (rest := []) (lenOf own_pd2 rfl) rfl (by show 2 * 0 + _ ≤ _; exact Nat.le_of_eq rfl) (hb hby own_d_jdk_52_method_91_code_5) (fun _ _ => ⟨rfl, e101, (by decide : 0 + 0 ≤ _), (by decide : 0 + 0 ≤ _)⟩)
  dsimp only [Pt.U, Pt.locs, Pt.cells, Pt.slots] at X102 l102 y102 z102 st102 hQ102
  subst l102 y102 z102
  obtain ⟨rfl, M102, e102⟩ := hQ102
  have N102 := Fr.app N101 M102
  refine own_st (S' := T102.setTop (mkF m 8 #[.val (.int i0), .val (.ref d0)] [])) st102 ?_
  refine own_ret0 X102 hx hret hlk (hb hby own_d_jdk_52_method_91_code_8) (by decide) (by decide) ?_
  rw [e102]
  exact ⟨rfl, N102, rfl⟩
def own_Q_getc (Z : State) (y1 y2 : Int32) (h0 : Heap) (n0 : Nat) (v : Option Value) (h : Heap) (L : List Loc) : Prop := v = some (.int (StrChars.pairCh y1 y2)) ∧ Fr n0 L ∧ h = h0
theorem own_ef_getc (m : MethodId) (d0 : Addr) (i0 : Int32) : entryFrame m #[(.ref d0), (.int i0)] 2 = mkF m 0 #[.val (.ref d0), .val (.int i0)] [] := by first | (simp [entryFrame, mkF, argsToLocals, Value.category, maxLocals]; done) | rfl
set_option maxRecDepth 65536 in
set_option maxHeartbeats 40000000 in
theorem own_rm_getc (l : Launch) (Z : State) (a0 : Array Value) (hw : ∀ d ∈ tables_1, d.before a0 Z = true) (G1 : Int32) (S1 : Sta Z Z.heap "java/lang/String" "COMPACT_STRINGS" "Z" (.int G1)) (P1 : ¬ G1 = 0) (G3 : Value) (S3 : Sta Z Z.heap "jdk/internal/util/Preconditions" "SIOOBE_FORMATTER" "Ljava/util/function/BiFunction;" G3) (P3 : G3.isRef = true) (S4 : Sta Z Z.heap "java/lang/StringUTF16" "$assertionsDisabled" "Z" (.int (1 : Int32))) (S5 : Sta Z Z.heap "java/lang/StringUTF16" "HI_BYTE_SHIFT" "I" (.int (0 : Int32))) (S6 : Sta Z Z.heap "java/lang/StringUTF16" "LO_BYTE_SHIFT" "I" (.int (8 : Int32))) (ws : List Jvm.Cond) (d0 : Addr) (i0 j0 m1 y1 y2 : Int32) (k0 : ClassId) (vs : List Value) (h0 : Heap) (n0 : Nat) (Z0 : n0 ≤ h0.size) (XO : Old Z n0 h0) (V1 : Arv Z h0 d0 k0 .byte m1 vs (.int (0 : Int32))) (hj : (i0 <<< ((1 : Int32) &&& 31)) = j0) (hb1 : ¬ j0 < 0 ∧ j0 < m1) (hb2 : ¬ (j0 + (1 : Int32)) < 0 ∧ (j0 + (1 : Int32)) < m1) (hg1 : vs.getD j0.toNatClampNeg (.int (0 : Int32)) = .int y1) (hg2 : vs.getD (j0 + (1 : Int32)).toNatClampNeg (.int (0 : Int32)) = .int y2) :
    own_Met l Z h0 (⟨"java/lang/StringUTF16", "getChar", "([BI)C"⟩ : MethodName) jdk_52_method_5_code 2 (some .char) ws { frames := 0, cells := 0, slots := 0, locals := 0 } #[(.ref d0), (.int i0)] (own_Q_getc Z y1 y2 h0 n0) := by
  refine own_enter (plainFor_of_name own_pn2) (fun p e s m below meth c s₁ hx hby hlk hml hown hnm hret hZ X0 e0 => ?_)
  have N0 := Fr.nil n0
  refine own_st (S' := s₁.setTop (mkF m 0 #[.val (.ref d0), .val (.int i0)] [])) (fun _ k => castTop (own_ef_getc m d0 i0) k) ?_
  have S101 : Sta Z h0 "java/lang/StringUTF16" "$assertionsDisabled" "Z" (.int (1 : Int32)) := (S4.ext XO.2)
  obtain ⟨T102, X102, e102, st102⟩ := getS2 X0 hx hZ hown (host := "") (Or.inl (hw _ own_w89)) Via.refl e0 S101 (g := (mkF m 0 #[.val (.ref d0), .val (.int i0)] [])) rfl (hb hby own_d_jdk_52_method_5_code_0)
  refine own_st (S' := T102.setTop (mkF m 3 #[.val (.ref d0), .val (.int i0)] [(.int (1 : Int32))])) st102 ?_
  refine own_st (S' := T102.setTop (mkF m 31 #[.val (.ref d0), .val (.int i0)] [(.int (i0 <<< ((1 : Int32) &&& 31)))])) (fun _ k => XS.ifYes X102.here hx rfl (pc0 := 3) (pc' := 28) rfl (hb hby own_d_jdk_52_method_5_code_3) rfl (by decide) (by decide) (by decide) (XS.iloadN X102.here hx rfl (hb hby own_d_jdk_52_method_5_code_28) rfl (XS.iconst X102.here hx rfl (hb hby own_d_jdk_52_method_5_code_29) (XS.ishl X102.here hx rfl (hb hby own_d_jdk_52_method_5_code_30) rfl k)))) ?_
  rw [hj]
  refine own_st (S' := T102.setTop (mkF m 37 #[.val (.ref d0), .val (.int (j0 + (1 : Int32)))] [(.int j0), (.ref d0)])) (fun _ k => XS.istoreN X102.here hx rfl (hb hby own_d_jdk_52_method_5_code_31) rfl (l' := #[.val (.ref d0), .val (.int j0)]) rfl (XS.aloadN X102.here hx rfl (hb hby own_d_jdk_52_method_5_code_32) rfl rfl (XS.iloadN X102.here hx rfl (hb hby own_d_jdk_52_method_5_code_33) rfl (XS.iinc X102.here hx rfl (hb hby own_d_jdk_52_method_5_code_34) rfl (l' := #[.val (.ref d0), .val (.int (j0 + (1 : Int32)))]) rfl k)))) ?_
  obtain ⟨c103, A103, q103, S103, M103, H103, U103⟩ := id V1
  have i103 := inb_of (j := j0) S103 hb1
  refine own_st (S' := T102.setTop (mkF m 38 #[.val (.ref d0), .val (.int (j0 + (1 : Int32)))] [(.int y1)])) (X102.baloadBytes hx (j := j0) (v := (.int y1)) (by rw [e102]; exact A103.1) (State.isArrayOf_alike hZ.alike A103.2.1) A103.2.2 i103 (H103.at i103 hg1) (g := (mkF m 37 #[.val (.ref d0), .val (.int (j0 + (1 : Int32)))] [(.int j0), (.ref d0)])) rfl rfl (hb hby own_d_jdk_52_method_5_code_37)) ?_
  refine own_st (S' := T102.setTop (mkF m 42 #[.val (.ref d0), .val (.int (j0 + (1 : Int32)))] [(.int (y1 &&& (255 : Int32)))])) (fun _ k => XS.sipush X102.here hx rfl (hb hby own_d_jdk_52_method_5_code_38) (XS.iand X102.here hx rfl (hb hby own_d_jdk_52_method_5_code_41) rfl k)) ?_
  have S104 : Sta Z h0 "java/lang/StringUTF16" "HI_BYTE_SHIFT" "I" (.int (0 : Int32)) := (S5.ext XO.2)
  obtain ⟨T105, X105, e105, st105⟩ := getS2 X102 hx hZ hown (host := "") (Or.inl (hw _ own_w90)) Via.refl e102 S104 (g := (mkF m 42 #[.val (.ref d0), .val (.int (j0 + (1 : Int32)))] [(.int (y1 &&& (255 : Int32)))])) rfl (hb hby own_d_jdk_52_method_5_code_42)
  refine own_st (S' := T105.setTop (mkF m 45 #[.val (.ref d0), .val (.int (j0 + (1 : Int32)))] [(.int (0 : Int32)), (.int (y1 &&& (255 : Int32)))])) st105 ?_
  refine own_st (S' := T105.setTop (mkF m 48 #[.val (.ref d0), .val (.int (j0 + (1 : Int32)))] [(.int (j0 + (1 : Int32))), (.ref d0), (.int ((y1 &&& (255 : Int32)) <<< ((0 : Int32) &&& 31)))])) (fun _ k => XS.ishl X105.here hx rfl (hb hby own_d_jdk_52_method_5_code_45) rfl (XS.aloadN X105.here hx rfl (hb hby own_d_jdk_52_method_5_code_46) rfl rfl (XS.iloadN X105.here hx rfl (hb hby own_d_jdk_52_method_5_code_47) rfl k))) ?_
  obtain ⟨c106, A106, q106, S106, M106, H106, U106⟩ := id V1
  have i106 := inb_of (j := (j0 + (1 : Int32))) S106 hb2
  refine own_st (S' := T105.setTop (mkF m 49 #[.val (.ref d0), .val (.int (j0 + (1 : Int32)))] [(.int y2), (.int ((y1 &&& (255 : Int32)) <<< ((0 : Int32) &&& 31)))])) (X105.baloadBytes hx (j := (j0 + (1 : Int32))) (v := (.int y2)) (by rw [e105]; exact A106.1) (State.isArrayOf_alike hZ.alike A106.2.1) A106.2.2 i106 (H106.at i106 hg2) (g := (mkF m 48 #[.val (.ref d0), .val (.int (j0 + (1 : Int32)))] [(.int (j0 + (1 : Int32))), (.ref d0), (.int ((y1 &&& (255 : Int32)) <<< ((0 : Int32) &&& 31)))])) rfl rfl (hb hby own_d_jdk_52_method_5_code_48)) ?_
  refine own_st (S' := T105.setTop (mkF m 53 #[.val (.ref d0), .val (.int (j0 + (1 : Int32)))] [(.int (y2 &&& (255 : Int32))), (.int ((y1 &&& (255 : Int32)) <<< ((0 : Int32) &&& 31)))])) (fun _ k => XS.sipush X105.here hx rfl (hb hby own_d_jdk_52_method_5_code_49) (XS.iand X105.here hx rfl (hb hby own_d_jdk_52_method_5_code_52) rfl k)) ?_
  have S107 : Sta Z h0 "java/lang/StringUTF16" "LO_BYTE_SHIFT" "I" (.int (8 : Int32)) := (S6.ext XO.2)
  obtain ⟨T108, X108, e108, st108⟩ := getS2 X105 hx hZ hown (host := "") (Or.inl (hw _ own_w91)) Via.refl e105 S107 (g := (mkF m 53 #[.val (.ref d0), .val (.int (j0 + (1 : Int32)))] [(.int (y2 &&& (255 : Int32))), (.int ((y1 &&& (255 : Int32)) <<< ((0 : Int32) &&& 31)))])) rfl (hb hby own_d_jdk_52_method_5_code_53)
  refine own_st (S' := T108.setTop (mkF m 56 #[.val (.ref d0), .val (.int (j0 + (1 : Int32)))] [(.int (8 : Int32)), (.int (y2 &&& (255 : Int32))), (.int ((y1 &&& (255 : Int32)) <<< ((0 : Int32) &&& 31)))])) st108 ?_
  refine own_st (S' := T108.setTop (mkF m 59 #[.val (.ref d0), .val (.int (j0 + (1 : Int32)))] [(.int ((((y1 &&& (255 : Int32)) <<< ((0 : Int32) &&& 31)) ||| ((y2 &&& (255 : Int32)) <<< ((8 : Int32) &&& 31))).toUInt32.toUInt16.toUInt32.toInt32))])) (fun _ k => XS.ishl X108.here hx rfl (hb hby own_d_jdk_52_method_5_code_56) rfl (XS.ior X108.here hx rfl (hb hby own_d_jdk_52_method_5_code_57) rfl (XS.i2c X108.here hx rfl (hb hby own_d_jdk_52_method_5_code_58) rfl k))) ?_
  refine own_ret X108 hx hret hlk (own_nch _) (Or.inl ⟨rfl, (by simp), _, rfl⟩) (hb hby own_d_jdk_52_method_5_code_59) (by decide) (by decide) ?_
  rw [e108]
  exact ⟨rfl, N0, rfl⟩
def own_Q_uch (Z : State) (y1 y2 : Int32) (h0 : Heap) (n0 : Nat) (v : Option Value) (h : Heap) (L : List Loc) : Prop := v = some (.int (StrChars.pairCh y1 y2)) ∧ Fr n0 L ∧ h = h0
theorem own_ef_uch (m : MethodId) (d0 : Addr) (i0 : Int32) : entryFrame m #[(.ref d0), (.int i0)] 2 = mkF m 0 #[.val (.ref d0), .val (.int i0)] [] := by first | (simp [entryFrame, mkF, argsToLocals, Value.category, maxLocals]; done) | rfl
set_option maxRecDepth 65536 in
set_option maxHeartbeats 40000000 in
theorem own_rm_uch (l : Launch) (Z : State) (a0 : Array Value) (hw : ∀ d ∈ tables_1, d.before a0 Z = true) (G1 : Int32) (S1 : Sta Z Z.heap "java/lang/String" "COMPACT_STRINGS" "Z" (.int G1)) (P1 : ¬ G1 = 0) (G3 : Value) (S3 : Sta Z Z.heap "jdk/internal/util/Preconditions" "SIOOBE_FORMATTER" "Ljava/util/function/BiFunction;" G3) (P3 : G3.isRef = true) (S4 : Sta Z Z.heap "java/lang/StringUTF16" "$assertionsDisabled" "Z" (.int (1 : Int32))) (S5 : Sta Z Z.heap "java/lang/StringUTF16" "HI_BYTE_SHIFT" "I" (.int (0 : Int32))) (S6 : Sta Z Z.heap "java/lang/StringUTF16" "LO_BYTE_SHIFT" "I" (.int (8 : Int32))) (ws : List Jvm.Cond) (d0 : Addr) (i0 j0 m1 y1 y2 : Int32) (k0 : ClassId) (vs : List Value) (h0 : Heap) (n0 : Nat) (Z0 : n0 ≤ h0.size) (XO : Old Z n0 h0) (V1 : Arv Z h0 d0 k0 .byte m1 vs (.int (0 : Int32))) (hj : (i0 <<< ((1 : Int32) &&& 31)) = j0) (hb1 : ¬ j0 < 0 ∧ j0 < m1) (hb2 : ¬ (j0 + (1 : Int32)) < 0 ∧ (j0 + (1 : Int32)) < m1) (hg1 : vs.getD j0.toNatClampNeg (.int (0 : Int32)) = .int y1) (hg2 : vs.getD (j0 + (1 : Int32)).toNatClampNeg (.int (0 : Int32)) = .int y2) (hi0 : ¬ (i0 < (0 : Int32))) (hi1 : i0 < (m1 >>> ((1 : Int32) &&& 31))) :
    own_Met l Z h0 (⟨"java/lang/StringUTF16", "charAt", "([BI)C"⟩ : MethodName) jdk_52_method_83_code 2 (some .char) ws { frames := 3, cells := 0, slots := 0, locals := 40 } #[(.ref d0), (.int i0)] (own_Q_uch Z y1 y2 h0 n0) := by
  refine own_enter (plainFor_of_name own_pn2) (fun p e s m below meth c s₁ hx hby hlk hml hown hnm hret hZ X0 e0 => ?_)
  have N0 := Fr.nil n0
  refine own_st (S' := s₁.setTop (mkF m 0 #[.val (.ref d0), .val (.int i0)] [])) (fun _ k => castTop (own_ef_uch m d0 i0) k) ?_
  refine own_st (S' := s₁.setTop (mkF m 2 #[.val (.ref d0), .val (.int i0)] [(.ref d0), (.int i0)])) (fun _ k => XS.iloadN X0.here hx rfl (hb hby own_d_jdk_52_method_83_code_0) rfl (XS.aloadN X0.here hx rfl (hb hby own_d_jdk_52_method_83_code_1) rfl rfl k)) ?_
  obtain ⟨_, _, ⟨T101, L101, k101, n101⟩, -, X101, ⟨Lc101, hQ101, l101, y101, z101⟩, st101⟩ := Jvm.LawKit.callS X0 hx (y := (⟨"java/lang/StringUTF16", "checkIndex", "(I[B)V"⟩ : MethodName)) hown (mvT hZ (hw _ own_w98)) (mvT hZ (hw _ own_w99)) (mvT hZ (hw _ own_w22)) (mvT hZ (hw _ own_w100)) (by decide) (backOf (W := 0) (own_rm_uck l Z a0 hw G1 S1 P1 G3 S3 P3 S4 S5 S6 [] i0 d0 k0 m1 vs h0 n0 (Nat.le_trans Z0 (Nat.le_refl _)) XO V1 hi0 hi1) hZ (hw _ own_w100) (hw _ own_w22) (by decide) (by decide)) (g := (mkF m 2 #[.val (.ref d0), .val (.int i0)] [(.ref d0), (.int i0)])) rfl (by rw [hml]; rfl) (argsL := [(.int i0), (.ref d0)]) (rest := []) (lenOf own_pd3 rfl) rfl (by show 2 * 0 + _ ≤ _; exact Nat.le_of_eq rfl) (hb hby own_d_jdk_52_method_83_code_2) (fun _ _ => ⟨rfl, e0, (by decide : 0 + 0 ≤ _), (by decide : 0 + 0 ≤ _)⟩)
  dsimp only [Pt.U, Pt.locs, Pt.cells, Pt.slots] at X101 l101 y101 z101 st101 hQ101
  subst l101 y101 z101
  obtain ⟨rfl, M101, e101⟩ := hQ101
  have N101 := Fr.app N0 M101
  refine own_st (S' := T101.setTop (mkF m 5 #[.val (.ref d0), .val (.int i0)] [])) st101 ?_
  refine own_st (S' := T101.setTop (mkF m 7 #[.val (.ref d0), .val (.int i0)] [(.int i0), (.ref d0)])) (fun _ k => XS.aloadN X101.here hx rfl (hb hby own_d_jdk_52_method_83_code_5) rfl rfl (XS.iloadN X101.here hx rfl (hb hby own_d_jdk_52_method_83_code_6) rfl k)) ?_
  obtain ⟨_, _, ⟨T102, L102, k102, n102⟩, -, X102, ⟨Lc102, hQ102, l102, y102, z102⟩, st102⟩ := Jvm.LawKit.callS X101 hx (y := (⟨"java/lang/StringUTF16", "getChar", "([BI)C"⟩ : MethodName)) hown (mvT hZ (hw _ own_w92)) (mvT hZ (hw _ own_w93)) (mvT hZ (hw _ own_w22)) (mvT hZ (hw _ own_w94)) (by decide) (backOf (W := 0) (own_rm_getc l Z a0 hw G1 S1 P1 G3 S3 P3 S4 S5 S6 [] d0 i0 j0 m1 y1 y2 k0 vs h0 n0 (Nat.le_trans Z0 (Nat.le_refl _)) XO V1 hj hb1 hb2 hg1 hg2) hZ (hw _ own_w94) (hw _ own_w22) (by decide) (by decide)) (g := (mkF m 7 #[.val (.ref d0), .val (.int i0)] [(.int i0), (.ref d0)])) rfl (by rw [hml]; rfl) (argsL := [(.ref d0), (.int i0)]) (rest := []) (lenOf own_pd4 rfl) rfl (by show 2 * 0 + _ ≤ _; exact Nat.le_of_eq rfl) (hb hby own_d_jdk_52_method_83_code_7) (fun _ _ => ⟨rfl, e101, (by decide : 0 + 0 ≤ _), (by decide : 0 + 0 ≤ _)⟩)
  dsimp only [Pt.U, Pt.locs, Pt.cells, Pt.slots] at X102 l102 y102 z102 st102 hQ102
  subst l102 y102 z102
  obtain ⟨rfl, M102, e102⟩ := hQ102
  have N102 := Fr.app N101 M102
  refine own_st (S' := T102.setTop (mkF m 10 #[.val (.ref d0), .val (.int i0)] [(.int (StrChars.pairCh y1 y2))])) st102 ?_
  refine own_ret X102 hx hret hlk (own_nch _) (Or.inl ⟨rfl, (by simp), _, rfl⟩) (hb hby own_d_jdk_52_method_83_code_10) (by decide) (by decide) ?_
  rw [e102]
  exact ⟨rfl, N102, rfl⟩
def own_Q_isl (Z : State) (h0 : Heap) (n0 : Nat) (v : Option Value) (h : Heap) (L : List Loc) : Prop := v = some (.int 0) ∧ Fr n0 L ∧ h = h0
theorem own_ef_isl (m : MethodId) (x0 : Addr) : entryFrame m #[(.ref x0)] 1 = mkF m 0 #[.val (.ref x0)] [] := by first | (simp [entryFrame, mkF, argsToLocals, Value.category, maxLocals]; done) | rfl
set_option maxRecDepth 65536 in
set_option maxHeartbeats 40000000 in
theorem own_rm_isl (l : Launch) (Z : State) (a0 : Array Value) (hw : ∀ d ∈ tables_1, d.before a0 Z = true) (G1 : Int32) (S1 : Sta Z Z.heap "java/lang/String" "COMPACT_STRINGS" "Z" (.int G1)) (P1 : ¬ G1 = 0) (G3 : Value) (S3 : Sta Z Z.heap "jdk/internal/util/Preconditions" "SIOOBE_FORMATTER" "Ljava/util/function/BiFunction;" G3) (P3 : G3.isRef = true) (S4 : Sta Z Z.heap "java/lang/StringUTF16" "$assertionsDisabled" "Z" (.int (1 : Int32))) (S5 : Sta Z Z.heap "java/lang/StringUTF16" "HI_BYTE_SHIFT" "I" (.int (0 : Int32))) (S6 : Sta Z Z.heap "java/lang/StringUTF16" "LO_BYTE_SHIFT" "I" (.int (8 : Int32))) (ws : List Jvm.Cond) (x0 : Addr) (h0 : Heap) (n0 : Nat) (Z0 : n0 ≤ h0.size) (XO : Old Z n0 h0) (F2 : Fld Z h0 x0 "java/lang/String" "coder" "B" (.int (1 : Int32))) :
    own_Met l Z h0 (⟨"java/lang/String", "isLatin1", "()Z"⟩ : MethodName) jdk_42_method_154_code 1 (some .boolean) ws { frames := 0, cells := 0, slots := 0, locals := 0 } #[(.ref x0)] (own_Q_isl Z h0 n0) := by
  refine own_enter (plainFor_of_name own_pn1) (fun p e s m below meth c s₁ hx hby hlk hml hown hnm hret hZ X0 e0 => ?_)
  have N0 := Fr.nil n0
  refine own_st (S' := s₁.setTop (mkF m 0 #[.val (.ref x0)] [])) (fun _ k => castTop (own_ef_isl m x0) k) ?_
  have S101 : Sta Z h0 "java/lang/String" "COMPACT_STRINGS" "Z" (.int G1) := (S1.ext XO.2)
  obtain ⟨T102, X102, e102, st102⟩ := getS2 X0 hx hZ hown (host := "") (Or.inl (hw _ own_w19)) Via.refl e0 S101 (g := (mkF m 0 #[.val (.ref x0)] [])) rfl (hb hby own_d_jdk_42_method_154_code_0)
  refine own_st (S' := T102.setTop (mkF m 3 #[.val (.ref x0)] [(.int G1)])) st102 ?_
  refine own_st (S' := T102.setTop (mkF m 7 #[.val (.ref x0)] [(.ref x0)])) (fun _ k => XS.ifNo X102.here hx rfl (hb hby own_d_jdk_42_method_154_code_3) rfl ((if0 _ _).trans (feq P1).1) (XS.aloadN X102.here hx rfl (hb hby own_d_jdk_42_method_154_code_6) rfl rfl k)) ?_
  obtain ⟨T103, X103, e103, st103⟩ := getF X102 hx hZ hown (host := "") (Or.inl (hw _ own_w31)) Via.refl e102 F2 (g := (mkF m 7 #[.val (.ref x0)] [(.ref x0)])) rfl rfl (hb hby own_d_jdk_42_method_154_code_7)
  refine own_st (S' := T103.setTop (mkF m 10 #[.val (.ref x0)] [(.int (1 : Int32))])) st103 ?_
  refine own_st (S' := T103.setTop (mkF m 18 #[.val (.ref x0)] [(.int (0 : Int32))])) (fun _ k => XS.ifYes X103.here hx rfl (pc0 := 10) (pc' := 17) rfl (hb hby own_d_jdk_42_method_154_code_10) rfl (by decide) (by decide) (by decide) (XS.iconst X103.here hx rfl (hb hby own_d_jdk_42_method_154_code_17) k)) ?_
  refine own_ret X103 hx hret hlk rfl (Or.inl ⟨rfl, (by simp), _, rfl⟩) (hb hby own_d_jdk_42_method_154_code_18) (by decide) (by decide) ?_
  rw [e103]
  exact ⟨rfl, N0, rfl⟩
def own_Q_sca (Z : State) (y1 y2 : Int32) (h0 : Heap) (n0 : Nat) (v : Option Value) (h : Heap) (L : List Loc) : Prop := v = some (.int (StrChars.pairCh y1 y2)) ∧ Fr n0 L ∧ h = h0
theorem own_ef_sca (m : MethodId) (x0 : Addr) (i0 : Int32) : entryFrame m #[(.ref x0), (.int i0)] 2 = mkF m 0 #[.val (.ref x0), .val (.int i0)] [] := by first | (simp [entryFrame, mkF, argsToLocals, Value.category, maxLocals]; done) | rfl
set_option maxRecDepth 65536 in
set_option maxHeartbeats 40000000 in
theorem own_rm_sca (l : Launch) (Z : State) (a0 : Array Value) (hw : ∀ d ∈ tables_1, d.before a0 Z = true) (G1 : Int32) (S1 : Sta Z Z.heap "java/lang/String" "COMPACT_STRINGS" "Z" (.int G1)) (P1 : ¬ G1 = 0) (G3 : Value) (S3 : Sta Z Z.heap "jdk/internal/util/Preconditions" "SIOOBE_FORMATTER" "Ljava/util/function/BiFunction;" G3) (P3 : G3.isRef = true) (S4 : Sta Z Z.heap "java/lang/StringUTF16" "$assertionsDisabled" "Z" (.int (1 : Int32))) (S5 : Sta Z Z.heap "java/lang/StringUTF16" "HI_BYTE_SHIFT" "I" (.int (0 : Int32))) (S6 : Sta Z Z.heap "java/lang/StringUTF16" "LO_BYTE_SHIFT" "I" (.int (8 : Int32))) (ws : List Jvm.Cond) (x0 : Addr) (d0 : Addr) (i0 j0 m1 y1 y2 : Int32) (k0 : ClassId) (vs : List Value) (h0 : Heap) (n0 : Nat) (Z0 : n0 ≤ h0.size) (XO : Old Z n0 h0) (E1 : Exa Z h0 x0 "java/lang/String") (F1 : Fld Z h0 x0 "java/lang/String" "value" "[B" (.ref d0)) (F2 : Fld Z h0 x0 "java/lang/String" "coder" "B" (.int (1 : Int32))) (V1 : Arv Z h0 d0 k0 .byte m1 vs (.int (0 : Int32))) (hj : (i0 <<< ((1 : Int32) &&& 31)) = j0) (hb1 : ¬ j0 < 0 ∧ j0 < m1) (hb2 : ¬ (j0 + (1 : Int32)) < 0 ∧ (j0 + (1 : Int32)) < m1) (hg1 : vs.getD j0.toNatClampNeg (.int (0 : Int32)) = .int y1) (hg2 : vs.getD (j0 + (1 : Int32)).toNatClampNeg (.int (0 : Int32)) = .int y2) (hi0 : ¬ (i0 < (0 : Int32))) (hi1 : i0 < (m1 >>> ((1 : Int32) &&& 31))) :
    own_Met l Z h0 (⟨"java/lang/String", "charAt", "(I)C"⟩ : MethodName) jdk_42_method_56_code 2 (some .char) ws { frames := 4, cells := 0, slots := 0, locals := 53 } #[(.ref x0), (.int i0)] (own_Q_sca Z y1 y2 h0 n0) := by
  refine own_enter (plainFor_of_name own_pn1) (fun p e s m below meth c s₁ hx hby hlk hml hown hnm hret hZ X0 e0 => ?_)
  have N0 := Fr.nil n0
  refine own_st (S' := s₁.setTop (mkF m 0 #[.val (.ref x0), .val (.int i0)] [])) (fun _ k => castTop (own_ef_sca m x0 i0) k) ?_
  refine own_st (S' := s₁.setTop (mkF m 1 #[.val (.ref x0), .val (.int i0)] [(.ref x0)])) (fun _ k => XS.aloadN X0.here hx rfl (hb hby own_d_jdk_42_method_56_code_0) rfl rfl k) ?_
  obtain ⟨cq101, kq101, q101a, q101b, q101c⟩ := isOf hZ e0 E1
  obtain ⟨_, _, ⟨T101, L101, k101, n101⟩, -, X101, ⟨Lc101, hQ101, l101, y101, z101⟩, st101⟩ := X0.virtualBack hx (y := (⟨"java/lang/String", "isLatin1", "()Z"⟩ : MethodName)) (z := (⟨"java/lang/String", "isLatin1", "()Z"⟩ : MethodName)) hown (mvT hZ (hw _ own_w59)) (mvT hZ (hw _ own_w60)) (notFace_of_selects (args := #[]) (mvT hZ (hw _ own_w62))) (mvT hZ (hw _ own_w62)) (mvT hZ (hw _ own_w61)) (by decide) (backOf (W := 0) (own_rm_isl l Z a0 hw G1 S1 P1 G3 S3 P3 S4 S5 S6 [] x0 h0 n0 (Nat.le_trans Z0 (Nat.le_refl _)) XO F2) hZ (hw _ own_w63) (hw _ own_w8) (by decide) (by decide)) q101a q101c (g := (mkF m 1 #[.val (.ref x0), .val (.int i0)] [(.ref x0)])) rfl (by rw [hml]; rfl) (Steps.refl _) (argsL := []) (rest := []) (lenOf own_pd5 rfl) rfl (by show 2 * 0 + _ ≤ _; exact Nat.le_of_eq rfl) (hb hby own_d_jdk_42_method_56_code_1) (fun _ _ => ⟨rfl, e0, (by decide : 0 + 0 ≤ _), (by decide : 0 + 0 ≤ _)⟩)
  dsimp only [Pt.U, Pt.locs, Pt.cells, Pt.slots] at X101 l101 y101 z101 st101 hQ101
  subst l101 y101 z101
  obtain ⟨rfl, M101, e101⟩ := hQ101
  have N101 := Fr.app N0 M101
  refine own_tr (S' := T101.setTop (mkF m 4 #[.val (.ref x0), .val (.int i0)] [(.int (0 : Int32))])) st101 ?_
  refine own_st (S' := T101.setTop (mkF m 17 #[.val (.ref x0), .val (.int i0)] [(.ref x0)])) (fun _ k => XS.ifYes X101.here hx rfl (pc0 := 4) (pc' := 16) rfl (hb hby own_d_jdk_42_method_56_code_4) rfl (by decide) (by decide) (by decide) (XS.aloadN X101.here hx rfl (hb hby own_d_jdk_42_method_56_code_16) rfl rfl k)) ?_
  obtain ⟨T102, X102, e102, st102⟩ := getF X101 hx hZ hown (host := "") (Or.inl (hw _ own_w33)) Via.refl e101 F1 (g := (mkF m 17 #[.val (.ref x0), .val (.int i0)] [(.ref x0)])) rfl rfl (hb hby own_d_jdk_42_method_56_code_17)
  refine own_st (S' := T102.setTop (mkF m 20 #[.val (.ref x0), .val (.int i0)] [(.ref d0)])) st102 ?_
  refine own_st (S' := T102.setTop (mkF m 21 #[.val (.ref x0), .val (.int i0)] [(.int i0), (.ref d0)])) (fun _ k => XS.iloadN X102.here hx rfl (hb hby own_d_jdk_42_method_56_code_20) rfl k) ?_
  obtain ⟨_, _, ⟨T103, L103, k103, n103⟩, -, X103, ⟨Lc103, hQ103, l103, y103, z103⟩, st103⟩ := Jvm.LawKit.callS X102 hx (y := (⟨"java/lang/StringUTF16", "charAt", "([BI)C"⟩ : MethodName)) hown (mvT hZ (hw _ own_w95)) (mvT hZ (hw _ own_w96)) (mvT hZ (hw _ own_w22)) (mvT hZ (hw _ own_w97)) (by decide) (backOf (W := 0) (own_rm_uch l Z a0 hw G1 S1 P1 G3 S3 P3 S4 S5 S6 [] d0 i0 j0 m1 y1 y2 k0 vs h0 n0 (Nat.le_trans Z0 (Nat.le_refl _)) XO V1 hj hb1 hb2 hg1 hg2 hi0 hi1) hZ (hw _ own_w97) (hw _ own_w22) (by decide) (by decide)) (g := (mkF m 21 #[.val (.ref x0), .val (.int i0)] [(.int i0), (.ref d0)])) rfl (by rw [hml]; rfl) (argsL := [(.ref d0), (.int i0)]) (rest := []) (lenOf own_pd4 rfl) rfl (by show 2 * 0 + _ ≤ _; exact Nat.le_of_eq rfl) (hb hby own_d_jdk_42_method_56_code_21) (fun _ _ => ⟨rfl, e102, (by decide : 0 + 0 ≤ _), (by decide : 0 + 0 ≤ _)⟩)
  dsimp only [Pt.U, Pt.locs, Pt.cells, Pt.slots] at X103 l103 y103 z103 st103 hQ103
  subst l103 y103 z103
  obtain ⟨rfl, M103, e103⟩ := hQ103
  have N103 := Fr.app N101 M103
  refine own_st (S' := T103.setTop (mkF m 24 #[.val (.ref x0), .val (.int i0)] [(.int (StrChars.pairCh y1 y2))])) st103 ?_
  refine own_ret X103 hx hret hlk (own_nch _) (Or.inl ⟨rfl, (by simp), _, rfl⟩) (hb hby own_d_jdk_42_method_56_code_24) (by decide) (by decide) ?_
  rw [e103]
  exact ⟨rfl, N103, rfl⟩
def own_Q_putc (Z : State) (d0 : Addr) (x0 m1 : Int32) (a1 : Nat) (k0 : ClassId) (vs : List Value) (h0 : Heap) (n0 : Nat) (v : Option Value) (h : Heap) (L : List Loc) : Prop := v = none ∧ Fr n0 L ∧ Keep h0 h [d0] ∧ Arv Z h d0 k0 .byte m1 ((vs.set a1 (.int (StrChars.lo8 x0))).set (a1 + 1) (.int (StrChars.hi8 x0))) (.int (0 : Int32))
theorem own_ef_putc (m : MethodId) (d0 : Addr) (i0 : Int32) (x0 : Int32) : entryFrame m #[(.ref d0), (.int i0), (.int x0)] 3 = mkF m 0 #[.val (.ref d0), .val (.int i0), .val (.int x0)] [] := by first | (simp [entryFrame, mkF, argsToLocals, Value.category, maxLocals]; done) | rfl
set_option maxRecDepth 65536 in
set_option maxHeartbeats 40000000 in
theorem own_rm_putc (l : Launch) (Z : State) (a0 : Array Value) (hw : ∀ d ∈ tables_1, d.before a0 Z = true) (G1 : Int32) (S1 : Sta Z Z.heap "java/lang/String" "COMPACT_STRINGS" "Z" (.int G1)) (P1 : ¬ G1 = 0) (G3 : Value) (S3 : Sta Z Z.heap "jdk/internal/util/Preconditions" "SIOOBE_FORMATTER" "Ljava/util/function/BiFunction;" G3) (P3 : G3.isRef = true) (S4 : Sta Z Z.heap "java/lang/StringUTF16" "$assertionsDisabled" "Z" (.int (1 : Int32))) (S5 : Sta Z Z.heap "java/lang/StringUTF16" "HI_BYTE_SHIFT" "I" (.int (0 : Int32))) (S6 : Sta Z Z.heap "java/lang/StringUTF16" "LO_BYTE_SHIFT" "I" (.int (8 : Int32))) (ws : List Jvm.Cond) (d0 : Addr) (i0 x0 j0 m1 : Int32) (a1 : Nat) (k0 : ClassId) (vs : List Value) (h0 : Heap) (n0 : Nat) (Z0 : n0 ≤ h0.size) (XO : Old Z n0 h0) (g0 : n0 ≤ d0) (V1 : Arv Z h0 d0 k0 .byte m1 vs (.int (0 : Int32))) (hj : (i0 <<< ((1 : Int32) &&& 31)) = j0) (hb1 : ¬ j0 < 0 ∧ j0 < m1) (hb2 : ¬ (j0 + (1 : Int32)) < 0 ∧ (j0 + (1 : Int32)) < m1) (hn1 : j0.toNatClampNeg = a1) (hn2 : (j0 + (1 : Int32)).toNatClampNeg = a1 + 1) (hlt : a1 + 1 < vs.length) :
    own_Met l Z h0 (⟨"java/lang/StringUTF16", "putChar", "([BII)V"⟩ : MethodName) jdk_52_method_4_code 3 (none) ws { frames := 0, cells := 0, slots := 0, locals := 0 } #[(.ref d0), (.int i0), (.int x0)] (own_Q_putc Z d0 x0 m1 a1 k0 vs h0 n0) := by
  refine own_enter (plainFor_of_name own_pn2) (fun p e s m below meth c s₁ hx hby hlk hml hown hnm hret hZ X0 e0 => ?_)
  have N0 := Fr.nil n0
  refine own_st (S' := s₁.setTop (mkF m 0 #[.val (.ref d0), .val (.int i0), .val (.int x0)] [])) (fun _ k => castTop (own_ef_putc m d0 i0 x0) k) ?_
  have S101 : Sta Z h0 "java/lang/StringUTF16" "$assertionsDisabled" "Z" (.int (1 : Int32)) := (S4.ext XO.2)
  obtain ⟨T102, X102, e102, st102⟩ := getS2 X0 hx hZ hown (host := "") (Or.inl (hw _ own_w89)) Via.refl e0 S101 (g := (mkF m 0 #[.val (.ref d0), .val (.int i0), .val (.int x0)] [])) rfl (hb hby own_d_jdk_52_method_4_code_0)
  refine own_st (S' := T102.setTop (mkF m 3 #[.val (.ref d0), .val (.int i0), .val (.int x0)] [(.int (1 : Int32))])) st102 ?_
  refine own_st (S' := T102.setTop (mkF m 31 #[.val (.ref d0), .val (.int i0), .val (.int x0)] [(.int (i0 <<< ((1 : Int32) &&& 31)))])) (fun _ k => XS.ifYes X102.here hx rfl (pc0 := 3) (pc' := 28) rfl (hb hby own_d_jdk_52_method_4_code_3) rfl (by decide) (by decide) (by decide) (XS.iloadN X102.here hx rfl (hb hby own_d_jdk_52_method_4_code_28) rfl (XS.iconst X102.here hx rfl (hb hby own_d_jdk_52_method_4_code_29) (XS.ishl X102.here hx rfl (hb hby own_d_jdk_52_method_4_code_30) rfl k)))) ?_
  rw [hj]
  refine own_st (S' := T102.setTop (mkF m 37 #[.val (.ref d0), .val (.int (j0 + (1 : Int32))), .val (.int x0)] [(.int j0), (.ref d0)])) (fun _ k => XS.istoreN X102.here hx rfl (hb hby own_d_jdk_52_method_4_code_31) rfl (l' := #[.val (.ref d0), .val (.int j0), .val (.int x0)]) rfl (XS.aloadN X102.here hx rfl (hb hby own_d_jdk_52_method_4_code_32) rfl rfl (XS.iloadN X102.here hx rfl (hb hby own_d_jdk_52_method_4_code_33) rfl (XS.iinc X102.here hx rfl (hb hby own_d_jdk_52_method_4_code_34) rfl (l' := #[.val (.ref d0), .val (.int (j0 + (1 : Int32))), .val (.int x0)]) rfl k)))) ?_
  refine own_st (S' := T102.setTop (mkF m 38 #[.val (.ref d0), .val (.int (j0 + (1 : Int32))), .val (.int x0)] [(.int x0), (.int j0), (.ref d0)])) (fun _ k => XS.iloadN X102.here hx rfl (hb hby own_d_jdk_52_method_4_code_37) rfl k) ?_
  have S103 : Sta Z h0 "java/lang/StringUTF16" "HI_BYTE_SHIFT" "I" (.int (0 : Int32)) := (S5.ext XO.2)
  obtain ⟨T104, X104, e104, st104⟩ := getS2 X102 hx hZ hown (host := "") (Or.inl (hw _ own_w90)) Via.refl e102 S103 (g := (mkF m 38 #[.val (.ref d0), .val (.int (j0 + (1 : Int32))), .val (.int x0)] [(.int x0), (.int j0), (.ref d0)])) rfl (hb hby own_d_jdk_52_method_4_code_38)
  refine own_st (S' := T104.setTop (mkF m 41 #[.val (.ref d0), .val (.int (j0 + (1 : Int32))), .val (.int x0)] [(.int (0 : Int32)), (.int x0), (.int j0), (.ref d0)])) st104 ?_
  refine own_st (S' := T104.setTop (mkF m 43 #[.val (.ref d0), .val (.int (j0 + (1 : Int32))), .val (.int x0)] [(.int ((x0 >>> ((0 : Int32) &&& 31)).toInt8.toInt32)), (.int j0), (.ref d0)])) (fun _ k => XS.ishr X104.here hx rfl (hb hby own_d_jdk_52_method_4_code_41) rfl (XS.i2b X104.here hx rfl (hb hby own_d_jdk_52_method_4_code_42) rfl k)) ?_
  obtain ⟨c105, A105, q105, S105, M105, H105, U105⟩ := id V1
  obtain ⟨T105, h105, X105, e105, W105, st105⟩ := stB X104 hx hZ e104 A105 (j := j0) (inb_of S105 hb1) (g := (mkF m 43 #[.val (.ref d0), .val (.int (j0 + (1 : Int32))), .val (.int x0)] [(.int ((x0 >>> ((0 : Int32) &&& 31)).toInt8.toInt32)), (.int j0), (.ref d0)])) rfl rfl (hb hby own_d_jdk_52_method_4_code_43)
  have N105 := Fr.snoc X105 N0 g0
  have V105 : Arv Z h105 d0 k0 .byte m1 (vs.set a1 (.int (nar .byte ((x0 >>> ((0 : Int32) &&& 31)).toInt8.toInt32)))) (.int (0 : Int32)) := Arv.set A105 q105 S105 M105 H105 U105 (fits_nar_byte _) W105 _ hn1 (Nat.lt_of_succ_lt hlt)
  refine own_st (S' := T105.setTop (mkF m 44 #[.val (.ref d0), .val (.int (j0 + (1 : Int32))), .val (.int x0)] [])) st105 ?_
  refine own_st (S' := T105.setTop (mkF m 47 #[.val (.ref d0), .val (.int (j0 + (1 : Int32))), .val (.int x0)] [(.int x0), (.int (j0 + (1 : Int32))), (.ref d0)])) (fun _ k => XS.aloadN X105.here hx rfl (hb hby own_d_jdk_52_method_4_code_44) rfl rfl (XS.iloadN X105.here hx rfl (hb hby own_d_jdk_52_method_4_code_45) rfl (XS.iloadN X105.here hx rfl (hb hby own_d_jdk_52_method_4_code_46) rfl k))) ?_
  have XO106 : Old Z n0 h105 := (XO.wr W105 g0)
  have S107 : Sta Z h105 "java/lang/StringUTF16" "LO_BYTE_SHIFT" "I" (.int (8 : Int32)) := (S6.ext XO106.2)
  obtain ⟨T108, X108, e108, st108⟩ := getS2 X105 hx hZ hown (host := "") (Or.inl (hw _ own_w91)) Via.refl e105 S107 (g := (mkF m 47 #[.val (.ref d0), .val (.int (j0 + (1 : Int32))), .val (.int x0)] [(.int x0), (.int (j0 + (1 : Int32))), (.ref d0)])) rfl (hb hby own_d_jdk_52_method_4_code_47)
  refine own_st (S' := T108.setTop (mkF m 50 #[.val (.ref d0), .val (.int (j0 + (1 : Int32))), .val (.int x0)] [(.int (8 : Int32)), (.int x0), (.int (j0 + (1 : Int32))), (.ref d0)])) st108 ?_
  refine own_st (S' := T108.setTop (mkF m 52 #[.val (.ref d0), .val (.int (j0 + (1 : Int32))), .val (.int x0)] [(.int ((x0 >>> ((8 : Int32) &&& 31)).toInt8.toInt32)), (.int (j0 + (1 : Int32))), (.ref d0)])) (fun _ k => XS.ishr X108.here hx rfl (hb hby own_d_jdk_52_method_4_code_50) rfl (XS.i2b X108.here hx rfl (hb hby own_d_jdk_52_method_4_code_51) rfl k)) ?_
  obtain ⟨c109, A109, q109, S109, M109, H109, U109⟩ := id V105
  obtain ⟨T109, h109, X109, e109, W109, st109⟩ := stB X108 hx hZ e108 A109 (j := (j0 + (1 : Int32))) (inb_of S109 hb2) (g := (mkF m 52 #[.val (.ref d0), .val (.int (j0 + (1 : Int32))), .val (.int x0)] [(.int ((x0 >>> ((8 : Int32) &&& 31)).toInt8.toInt32)), (.int (j0 + (1 : Int32))), (.ref d0)])) rfl rfl (hb hby own_d_jdk_52_method_4_code_52)
  have N109 := Fr.snoc X109 N105 g0
  have V109 : Arv Z h109 d0 k0 .byte m1 ((vs.set a1 (.int (nar .byte ((x0 >>> ((0 : Int32) &&& 31)).toInt8.toInt32)))).set (a1 + 1) (.int (nar .byte ((x0 >>> ((8 : Int32) &&& 31)).toInt8.toInt32)))) (.int (0 : Int32)) := Arv.set A109 q109 S109 M109 H109 U109 (fits_nar_byte _) W109 _ hn2 (by rw [List.length_set]; exact hlt)
  refine own_st (S' := T109.setTop (mkF m 53 #[.val (.ref d0), .val (.int (j0 + (1 : Int32))), .val (.int x0)] [])) st109 ?_
  refine own_ret0 X109 hx hret hlk (hb hby own_d_jdk_52_method_4_code_53) (by decide) (by decide) ?_
  rw [e109]
  exact ⟨rfl, N109, (((Keep.refl _ _).wr W105 (Or.inl (List.mem_of_getElem? (i := 0) rfl))).wr W109 (Or.inl (List.mem_of_getElem? (i := 0) rfl))), (by have q := V109; rw [own_nb0, own_nb8] at q; exact q)⟩
def own_Q_nbl1 (Z : State) (h0 : Heap) (n0 : Nat) (v : Option Value) (h : Heap) (L : List Loc) : Prop := v = some (.int 2) ∧ Fr n0 L ∧ h = h0
theorem own_ef_nbl1 (m : MethodId) : entryFrame m #[(.int (1 : Int32))] 1 = mkF m 0 #[.val (.int (1 : Int32))] [] := by first | (simp [entryFrame, mkF, argsToLocals, Value.category, maxLocals]; done) | rfl
set_option maxRecDepth 65536 in
set_option maxHeartbeats 40000000 in
theorem own_rm_nbl1 (l : Launch) (Z : State) (a0 : Array Value) (hw : ∀ d ∈ tables_1, d.before a0 Z = true) (G1 : Int32) (S1 : Sta Z Z.heap "java/lang/String" "COMPACT_STRINGS" "Z" (.int G1)) (P1 : ¬ G1 = 0) (G3 : Value) (S3 : Sta Z Z.heap "jdk/internal/util/Preconditions" "SIOOBE_FORMATTER" "Ljava/util/function/BiFunction;" G3) (P3 : G3.isRef = true) (S4 : Sta Z Z.heap "java/lang/StringUTF16" "$assertionsDisabled" "Z" (.int (1 : Int32))) (S5 : Sta Z Z.heap "java/lang/StringUTF16" "HI_BYTE_SHIFT" "I" (.int (0 : Int32))) (S6 : Sta Z Z.heap "java/lang/StringUTF16" "LO_BYTE_SHIFT" "I" (.int (8 : Int32))) (ws : List Jvm.Cond) (h0 : Heap) (n0 : Nat) (Z0 : n0 ≤ h0.size) (XO : Old Z n0 h0) :
    own_Met l Z h0 (⟨"java/lang/StringUTF16", "newBytesLength", "(I)I"⟩ : MethodName) jdk_52_method_3_code 1 (some .int) ws { frames := 0, cells := 0, slots := 0, locals := 0 } #[(.int (1 : Int32))] (own_Q_nbl1 Z h0 n0) := by
  refine own_enter (plainFor_of_name own_pn2) (fun p e s m below meth c s₁ hx hby hlk hml hown hnm hret hZ X0 e0 => ?_)
  have N0 := Fr.nil n0
  refine own_st (S' := s₁.setTop (mkF m 0 #[.val (.int (1 : Int32))] [])) (fun _ k => castTop (own_ef_nbl1 m) k) ?_
  refine own_st (S' := s₁.setTop (mkF m 13 #[.val (.int (1 : Int32))] [(.int (1 : Int32))])) (fun _ k => XS.iloadN X0.here hx rfl (hb hby own_d_jdk_52_method_3_code_0) rfl (XS.ifYes X0.here hx rfl (pc0 := 1) (pc' := 12) rfl (hb hby own_d_jdk_52_method_3_code_1) rfl (by decide) (by decide) (by decide) (XS.iloadN X0.here hx rfl (hb hby own_d_jdk_52_method_3_code_12) rfl k))) ?_
  refine own_st (S' := s₁.setTop (mkF m 15 #[.val (.int (1 : Int32))] [(.int (1073741823 : Int32)), (.int (1 : Int32))])) (X0.ldcInt hx hown (mvT hZ (hw _ own_w85)) (g := (mkF m 13 #[.val (.int (1 : Int32))] [(.int (1 : Int32))])) rfl (hb hby own_d_jdk_52_method_3_code_13)) ?_
  refine own_st (S' := s₁.setTop (mkF m 58 #[.val (.int (1 : Int32))] [(.int ((1 : Int32) <<< ((1 : Int32) &&& 31)))])) (fun _ k => XS.icmpYes X0.here hx rfl (pc0 := 15) (pc' := 55) rfl (hb hby own_d_jdk_52_method_3_code_15) rfl (by decide) (by decide) (by decide) (XS.iloadN X0.here hx rfl (hb hby own_d_jdk_52_method_3_code_55) rfl (XS.iconst X0.here hx rfl (hb hby own_d_jdk_52_method_3_code_56) (XS.ishl X0.here hx rfl (hb hby own_d_jdk_52_method_3_code_57) rfl k)))) ?_
  rw [show ((1 : Int32) <<< ((1 : Int32) &&& 31)) = (2 : Int32) from by decide]
  refine own_ret X0 hx hret hlk rfl (Or.inl ⟨rfl, (by simp), _, rfl⟩) (hb hby own_d_jdk_52_method_3_code_58) (by decide) (by decide) ?_
  rw [e0]
  exact ⟨rfl, N0, rfl⟩
def own_Q_nbf1 (Z : State) (h0 : Heap) (n0 : Nat) (v : Option Value) (h : Heap) (L : List Loc) : Prop := ∃ (r : Addr) (k : ClassId), v = some (.ref r) ∧ Fr n0 L ∧ Ext h0 h ∧ h0.size ≤ r ∧ Arv Z h r k .byte (2 : Int32) [(.int (0 : Int32)), (.int (0 : Int32))] (.int (0 : Int32))
theorem own_ef_nbf1 (m : MethodId) : entryFrame m #[(.int (1 : Int32))] 1 = mkF m 0 #[.val (.int (1 : Int32))] [] := by first | (simp [entryFrame, mkF, argsToLocals, Value.category, maxLocals]; done) | rfl
set_option maxRecDepth 65536 in
set_option maxHeartbeats 40000000 in
theorem own_rm_nbf1 (l : Launch) (Z : State) (a0 : Array Value) (hw : ∀ d ∈ tables_1, d.before a0 Z = true) (G1 : Int32) (S1 : Sta Z Z.heap "java/lang/String" "COMPACT_STRINGS" "Z" (.int G1)) (P1 : ¬ G1 = 0) (G3 : Value) (S3 : Sta Z Z.heap "jdk/internal/util/Preconditions" "SIOOBE_FORMATTER" "Ljava/util/function/BiFunction;" G3) (P3 : G3.isRef = true) (S4 : Sta Z Z.heap "java/lang/StringUTF16" "$assertionsDisabled" "Z" (.int (1 : Int32))) (S5 : Sta Z Z.heap "java/lang/StringUTF16" "HI_BYTE_SHIFT" "I" (.int (0 : Int32))) (S6 : Sta Z Z.heap "java/lang/StringUTF16" "LO_BYTE_SHIFT" "I" (.int (8 : Int32))) (ws : List Jvm.Cond) (h0 : Heap) (n0 : Nat) (Z0 : n0 ≤ h0.size) (XO : Old Z n0 h0) :
    own_Met l Z h0 (⟨"java/lang/StringUTF16", "newBytesFor", "(I)[B"⟩ : MethodName) jdk_52_method_2_code 1 (some (.array .byte)) ws { frames := 1, cells := 1, slots := 2, locals := 12 } #[(.int (1 : Int32))] (own_Q_nbf1 Z h0 n0) := by
  refine own_enter (plainFor_of_name own_pn2) (fun p e s m below meth c s₁ hx hby hlk hml hown hnm hret hZ X0 e0 => ?_)
  have N0 := Fr.nil n0
  refine own_st (S' := s₁.setTop (mkF m 0 #[.val (.int (1 : Int32))] [])) (fun _ k => castTop (own_ef_nbf1 m) k) ?_
  refine own_st (S' := s₁.setTop (mkF m 1 #[.val (.int (1 : Int32))] [(.int (1 : Int32))])) (fun _ k => XS.iloadN X0.here hx rfl (hb hby own_d_jdk_52_method_2_code_0) rfl k) ?_
  obtain ⟨_, _, ⟨T101, L101, k101, n101⟩, -, X101, ⟨Lc101, hQ101, l101, y101, z101⟩, st101⟩ := Jvm.LawKit.callS X0 hx (y := (⟨"java/lang/StringUTF16", "newBytesLength", "(I)I"⟩ : MethodName)) hown (mvT hZ (hw _ own_w82)) (mvT hZ (hw _ own_w83)) (mvT hZ (hw _ own_w22)) (mvT hZ (hw _ own_w84)) (by decide) (backOf (W := 0) (own_rm_nbl1 l Z a0 hw G1 S1 P1 G3 S3 P3 S4 S5 S6 []  h0 n0 (Nat.le_trans Z0 (Nat.le_refl _)) XO ) hZ (hw _ own_w84) (hw _ own_w22) (by decide) (by decide)) (g := (mkF m 1 #[.val (.int (1 : Int32))] [(.int (1 : Int32))])) rfl (by rw [hml]; rfl) (argsL := [(.int (1 : Int32))]) (rest := []) (lenOf own_pd6 rfl) rfl (by show 2 * 0 + _ ≤ _; exact Nat.le_of_eq rfl) (hb hby own_d_jdk_52_method_2_code_1) (fun _ _ => ⟨rfl, e0, (by decide : 0 + 0 ≤ _), (by decide : 0 + 0 ≤ _)⟩)
  dsimp only [Pt.U, Pt.locs, Pt.cells, Pt.slots] at X101 l101 y101 z101 st101 hQ101
  subst l101 y101 z101
  obtain ⟨rfl, M101, e101⟩ := hQ101
  have N101 := Fr.app N0 M101
  refine own_st (S' := T101.setTop (mkF m 4 #[.val (.int (1 : Int32))] [(.int (2 : Int32))])) st101 ?_
  obtain ⟨T102, h102, k102, X102, e102, E102, A102, AE102, st102⟩ := newPE X101 hx hZ (aty := .byte) (hw _ own_w24) e101 (g := (mkF m 4 #[.val (.int (1 : Int32))] [(.int (2 : Int32))])) rfl (hb hby own_d_jdk_52_method_2_code_4) rfl (by decide) (cap := 2) (by decide) (by decide) (by decide) (by decide) (ad := "[B") (by decide)
  obtain ⟨b102, g102⟩ : ∃ z, z = h0.size := ⟨_, rfl⟩
  rw [← g102] at A102 AE102 st102
  have V102 : Arv Z h102 b102 k102 .byte (2 : Int32) [(.int (0 : Int32)), (.int (0 : Int32))] (.int (0 : Int32)) := (Arv.new A102 (by decide)).pad (pad_rep [] (.int (0 : Int32)) 2)
  refine own_st (S' := T102.setTop (mkF m 6 #[.val (.int (1 : Int32))] [(.ref b102)])) st102 ?_
  refine own_ret X102 hx hret hlk rfl (Or.inr (Or.inr (Or.inr (Or.inr ⟨rfl, rfl, rfl⟩)))) (hb hby own_d_jdk_52_method_2_code_6) (by decide) (by decide) ?_
  rw [e102]
  exact ⟨b102, k102, rfl, N101, E102, (Nat.le_of_eq g102.symm), V102⟩
def own_Q_tob1 (Z : State) (c0 : Int32) (h0 : Heap) (n0 : Nat) (v : Option Value) (h : Heap) (L : List Loc) : Prop := ∃ (r : Addr) (k : ClassId), v = some (.ref r) ∧ Fr n0 L ∧ Ext h0 h ∧ h0.size ≤ r ∧ Arv Z h r k .byte (2 : Int32) [.int (StrChars.lo8 c0), .int (StrChars.hi8 c0)] (.int (0 : Int32))
theorem own_ef_tob1 (m : MethodId) (b0 : Addr) : entryFrame m #[(.ref b0), (.int (0 : Int32)), (.int (1 : Int32))] 5 = mkF m 0 #[.val (.ref b0), .val (.int (0 : Int32)), .val (.int (1 : Int32)), .unset, .unset] [] := by first | (simp [entryFrame, mkF, argsToLocals, Value.category, maxLocals]; done) | rfl
set_option maxRecDepth 65536 in
set_option maxHeartbeats 40000000 in
theorem own_rm_tob1 (l : Launch) (Z : State) (a0 : Array Value) (hw : ∀ d ∈ tables_1, d.before a0 Z = true) (G1 : Int32) (S1 : Sta Z Z.heap "java/lang/String" "COMPACT_STRINGS" "Z" (.int G1)) (P1 : ¬ G1 = 0) (G3 : Value) (S3 : Sta Z Z.heap "jdk/internal/util/Preconditions" "SIOOBE_FORMATTER" "Ljava/util/function/BiFunction;" G3) (P3 : G3.isRef = true) (S4 : Sta Z Z.heap "java/lang/StringUTF16" "$assertionsDisabled" "Z" (.int (1 : Int32))) (S5 : Sta Z Z.heap "java/lang/StringUTF16" "HI_BYTE_SHIFT" "I" (.int (0 : Int32))) (S6 : Sta Z Z.heap "java/lang/StringUTF16" "LO_BYTE_SHIFT" "I" (.int (8 : Int32))) (ws : List Jvm.Cond) (b0 : Addr) (kc : ClassId) (c0 : Int32) (h0 : Heap) (n0 : Nat) (Z0 : n0 ≤ h0.size) (XO : Old Z n0 h0) (V1 : Arv Z h0 b0 kc .char (1 : Int32) [.int c0] (.int (0 : Int32))) :
    own_Met l Z h0 (⟨"java/lang/StringUTF16", "toBytes", "([CII)[B"⟩ : MethodName) jdk_52_method_14_code 5 (some (.array .byte)) ws { frames := 2, cells := 1, slots := 2, locals := 24 } #[(.ref b0), (.int (0 : Int32)), (.int (1 : Int32))] (own_Q_tob1 Z c0 h0 n0) := by
  refine own_enter (plainFor_of_name own_pn2) (fun p e s m below meth c s₁ hx hby hlk hml hown hnm hret hZ X0 e0 => ?_)
  have N0 := Fr.nil n0
  refine own_st (S' := s₁.setTop (mkF m 0 #[.val (.ref b0), .val (.int (0 : Int32)), .val (.int (1 : Int32)), .unset, .unset] [])) (fun _ k => castTop (own_ef_tob1 m b0) k) ?_
  refine own_st (S' := s₁.setTop (mkF m 1 #[.val (.ref b0), .val (.int (0 : Int32)), .val (.int (1 : Int32)), .unset, .unset] [(.int (1 : Int32))])) (fun _ k => XS.iloadN X0.here hx rfl (hb hby own_d_jdk_52_method_14_code_0) rfl k) ?_
  obtain ⟨_, _, ⟨T101, L101, k101, n101⟩, -, X101, ⟨Lc101, hQ101, l101, y101, z101⟩, st101⟩ := Jvm.LawKit.callS X0 hx (y := (⟨"java/lang/StringUTF16", "newBytesFor", "(I)[B"⟩ : MethodName)) hown (mvT hZ (hw _ own_w79)) (mvT hZ (hw _ own_w80)) (mvT hZ (hw _ own_w22)) (mvT hZ (hw _ own_w81)) (by decide) (backOf (W := 0) (own_rm_nbf1 l Z a0 hw G1 S1 P1 G3 S3 P3 S4 S5 S6 []  h0 n0 (Nat.le_trans Z0 (Nat.le_refl _)) XO ) hZ (hw _ own_w81) (hw _ own_w22) (by decide) (by decide)) (g := (mkF m 1 #[.val (.ref b0), .val (.int (0 : Int32)), .val (.int (1 : Int32)), .unset, .unset] [(.int (1 : Int32))])) rfl (by rw [hml]; rfl) (argsL := [(.int (1 : Int32))]) (rest := []) (lenOf own_pd7 rfl) rfl (by show 2 * 0 + _ ≤ _; exact Nat.le_of_eq rfl) (hb hby own_d_jdk_52_method_14_code_1) (fun _ _ => ⟨rfl, e0, (by decide : 0 + 1 ≤ _), (by decide : 0 + 2 ≤ _)⟩)
  dsimp only [Pt.U, Pt.locs, Pt.cells, Pt.slots] at X101 l101 y101 z101 st101 hQ101
  subst l101 y101 z101
  obtain ⟨r101, kr101, rfl, M101, E101, g101, V101⟩ := hQ101
  have N101 := Fr.app N0 M101
  obtain ⟨h101, e101⟩ : ∃ z, T101.heap = z := ⟨_, rfl⟩
  rw [e101] at E101 V101
  refine own_st (S' := T101.setTop (mkF m 4 #[.val (.ref b0), .val (.int (0 : Int32)), .val (.int (1 : Int32)), .unset, .unset] [(.ref r101)])) st101 ?_
  refine own_st (S' := T101.setTop (mkF m 10 #[.val (.ref b0), .val (.int (0 : Int32)), .val (.int (1 : Int32)), .val (.ref r101), .val (.int (0 : Int32))] [(.int (0 : Int32))])) (fun _ k => XS.astoreN X101.here hx rfl (hb hby own_d_jdk_52_method_14_code_4) rfl rfl (l' := #[.val (.ref b0), .val (.int (0 : Int32)), .val (.int (1 : Int32)), .val (.ref r101), .unset]) rfl (XS.iconst X101.here hx rfl (hb hby own_d_jdk_52_method_14_code_5) (XS.istore X101.here hx rfl (hb hby own_d_jdk_52_method_14_code_6) rfl (l' := #[.val (.ref b0), .val (.int (0 : Int32)), .val (.int (1 : Int32)), .val (.ref r101), .val (.int (0 : Int32))]) rfl (XS.iload X101.here hx rfl (hb hby own_d_jdk_52_method_14_code_8) rfl k)))) ?_
  refine own_st (S' := T101.setTop (mkF m 17 #[.val (.ref b0), .val (.int (0 : Int32)), .val (.int (1 : Int32)), .val (.ref r101), .val (.int (0 : Int32))] [(.int (0 : Int32)), (.ref r101)])) (fun _ k => XS.iloadN X101.here hx rfl (hb hby own_d_jdk_52_method_14_code_10) rfl (XS.icmpNo X101.here hx rfl (hb hby own_d_jdk_52_method_14_code_11) rfl (by decide) (XS.aloadN X101.here hx rfl (hb hby own_d_jdk_52_method_14_code_14) rfl rfl (XS.iload X101.here hx rfl (hb hby own_d_jdk_52_method_14_code_15) rfl k)))) ?_
  refine own_st (S' := T101.setTop (mkF m 19 #[.val (.ref b0), .val (.int (0 : Int32)), .val (.int (1 : Int32)), .val (.ref r101), .val (.int (0 : Int32))] [(.int (0 : Int32)), (.ref b0), (.int (0 : Int32)), (.ref r101)])) (fun _ k => XS.aloadN X101.here hx rfl (hb hby own_d_jdk_52_method_14_code_17) rfl rfl (XS.iloadN X101.here hx rfl (hb hby own_d_jdk_52_method_14_code_18) rfl k)) ?_
  have V102 : Arv Z h101 b0 kc .char (1 : Int32) [(.int c0)] (.int (0 : Int32)) := (V1.ext E101)
  obtain ⟨c103, A103, q103, S103, M103, H103, U103⟩ := id V102
  have i103 := inb_of (j := (0 : Int32)) S103 ⟨by decide, by decide⟩
  refine own_st (S' := T101.setTop (mkF m 20 #[.val (.ref b0), .val (.int (0 : Int32)), .val (.int (1 : Int32)), .val (.ref r101), .val (.int (0 : Int32))] [(.int c0), (.int (0 : Int32)), (.ref r101)])) (X101.caload hx (j := (0 : Int32)) (v := (.int c0)) (by rw [e101]; exact A103.1) (State.isArrayOf_alike hZ.alike A103.2.1) A103.2.2 i103 (H103.at i103 rfl) (g := (mkF m 19 #[.val (.ref b0), .val (.int (0 : Int32)), .val (.int (1 : Int32)), .val (.ref r101), .val (.int (0 : Int32))] [(.int (0 : Int32)), (.ref b0), (.int (0 : Int32)), (.ref r101)])) rfl rfl (hb hby own_d_jdk_52_method_14_code_19)) ?_
  have XO104 : Old Z n0 h101 := (XO.ext E101)
  obtain ⟨_, _, ⟨T105, L105, k105, n105⟩, -, X105, ⟨Lc105, hQ105, l105, y105, z105⟩, st105⟩ := Jvm.LawKit.callS X101 hx (y := (⟨"java/lang/StringUTF16", "putChar", "([BII)V"⟩ : MethodName)) hown (mvT hZ (hw _ own_w86)) (mvT hZ (hw _ own_w87)) (mvT hZ (hw _ own_w22)) (mvT hZ (hw _ own_w88)) (by decide) (backOf (W := 0) (own_rm_putc l Z a0 hw G1 S1 P1 G3 S3 P3 S4 S5 S6 [] r101 (0 : Int32) c0 (0 : Int32) (2 : Int32) 0 kr101 [(.int (0 : Int32)), (.int (0 : Int32))] h101 n0 (Nat.le_trans Z0 E101.1) XO104 (Nat.le_trans Z0 g101) V101 (by decide) ⟨by decide, by decide⟩ ⟨by decide, by decide⟩ (by decide) (by decide) (Nat.le_of_ble_eq_true rfl)) hZ (hw _ own_w88) (hw _ own_w22) (by decide) (by decide)) (g := (mkF m 20 #[.val (.ref b0), .val (.int (0 : Int32)), .val (.int (1 : Int32)), .val (.ref r101), .val (.int (0 : Int32))] [(.int c0), (.int (0 : Int32)), (.ref r101)])) rfl (by rw [hml]; rfl) (argsL := [(.ref r101), (.int (0 : Int32)), (.int c0)]) (rest := []) (lenOf own_pd8 rfl) rfl (by show 2 * 0 + _ ≤ _; exact Nat.le_of_eq rfl) (hb hby own_d_jdk_52_method_14_code_20) (fun _ _ => ⟨rfl, e101, (by decide : 1 + 0 ≤ _), (by decide : 2 + 0 ≤ _)⟩)
  dsimp only [Pt.U, Pt.locs, Pt.cells, Pt.slots] at X105 l105 y105 z105 st105 hQ105
  subst l105 y105 z105
  obtain ⟨rfl, M105, K105, U105⟩ := hQ105
  have N105 := Fr.app N101 M105
  obtain ⟨h105, e105⟩ : ∃ z, T105.heap = z := ⟨_, rfl⟩
  rw [e105] at K105 U105
  have V105 : Arv Z h105 r101 kr101 .byte (2 : Int32) [(.int (StrChars.lo8 c0)), (.int (StrChars.hi8 c0))] (.int (0 : Int32)) := U105
  refine own_st (S' := T105.setTop (mkF m 23 #[.val (.ref b0), .val (.int (0 : Int32)), .val (.int (1 : Int32)), .val (.ref r101), .val (.int (0 : Int32))] [])) st105 ?_
  refine own_st (S' := T105.setTop (mkF m 10 #[.val (.ref b0), .val (.int (1 : Int32)), .val (.int (1 : Int32)), .val (.ref r101), .val (.int (1 : Int32))] [(.int (1 : Int32))])) (fun _ k => XS.iinc X105.here hx rfl (hb hby own_d_jdk_52_method_14_code_23) rfl (l' := #[.val (.ref b0), .val (.int (1 : Int32)), .val (.int (1 : Int32)), .val (.ref r101), .val (.int (0 : Int32))]) rfl (XS.iinc X105.here hx rfl (hb hby own_d_jdk_52_method_14_code_26) rfl (l' := #[.val (.ref b0), .val (.int (1 : Int32)), .val (.int (1 : Int32)), .val (.ref r101), .val (.int (1 : Int32))]) rfl (XS.goto X105.here hx rfl (pc0 := 29) (pc' := 8) rfl (hb hby own_d_jdk_52_method_14_code_29) (by decide) (by decide) (XS.iload X105.here hx rfl (hb hby own_d_jdk_52_method_14_code_8) rfl k)))) ?_
  refine own_st (S' := T105.setTop (mkF m 33 #[.val (.ref b0), .val (.int (1 : Int32)), .val (.int (1 : Int32)), .val (.ref r101), .val (.int (1 : Int32))] [(.ref r101)])) (fun _ k => XS.iloadN X105.here hx rfl (hb hby own_d_jdk_52_method_14_code_10) rfl (XS.icmpYes X105.here hx rfl (pc0 := 11) (pc' := 32) rfl (hb hby own_d_jdk_52_method_14_code_11) rfl (by decide) (by decide) (by decide) (XS.aloadN X105.here hx rfl (hb hby own_d_jdk_52_method_14_code_32) rfl rfl k))) ?_
  have XE106 : Ext h0 h105 := (own_xk E101 K105 (allS g101 all0))
  refine own_ret X105 hx hret hlk rfl (Or.inr (Or.inr (Or.inr (Or.inr ⟨rfl, rfl, rfl⟩)))) (hb hby own_d_jdk_52_method_14_code_33) (by decide) (by decide) ?_
  rw [e105]
  exact ⟨r101, kr101, rfl, N105, XE106, g101, V105⟩
def own_Q_cm51 (Z : State) (d0 : Addr) (k0 : ClassId) (c0 : Int32) (h0 : Heap) (n0 : Nat) (v : Option Value) (h : Heap) (L : List Loc) : Prop := Fr n0 L ∧ Keep h0 h [d0] ∧ ((v = some (.int 1) ∧ (¬ ((255 : Int32) < c0)) ∧ Arv Z h d0 k0 .byte (1 : Int32) [.int (StrChars.lo8 c0)] (.int (0 : Int32))) ∨ ∃ j : Nat, j < 1 ∧ v = some (.int (Int32.ofNat j)) ∧ (255 : Int32) < [c0].getD j 0)
theorem own_ef_cm51 (m : MethodId) (b0 : Addr) (d0 : Addr) : entryFrame m #[(.ref b0), (.int (0 : Int32)), (.ref d0), (.int (0 : Int32)), (.int (1 : Int32))] 7 = mkF m 0 #[.val (.ref b0), .val (.int (0 : Int32)), .val (.ref d0), .val (.int (0 : Int32)), .val (.int (1 : Int32)), .unset, .unset] [] := by first | (simp [entryFrame, mkF, argsToLocals, Value.category, maxLocals]; done) | rfl
set_option maxRecDepth 65536 in
set_option maxHeartbeats 40000000 in
theorem own_rm_cm51 (l : Launch) (Z : State) (a0 : Array Value) (hw : ∀ d ∈ tables_1, d.before a0 Z = true) (G1 : Int32) (S1 : Sta Z Z.heap "java/lang/String" "COMPACT_STRINGS" "Z" (.int G1)) (P1 : ¬ G1 = 0) (G3 : Value) (S3 : Sta Z Z.heap "jdk/internal/util/Preconditions" "SIOOBE_FORMATTER" "Ljava/util/function/BiFunction;" G3) (P3 : G3.isRef = true) (S4 : Sta Z Z.heap "java/lang/StringUTF16" "$assertionsDisabled" "Z" (.int (1 : Int32))) (S5 : Sta Z Z.heap "java/lang/StringUTF16" "HI_BYTE_SHIFT" "I" (.int (0 : Int32))) (S6 : Sta Z Z.heap "java/lang/StringUTF16" "LO_BYTE_SHIFT" "I" (.int (8 : Int32))) (ws : List Jvm.Cond) (b0 d0 : Addr) (kc k0 : ClassId) (c0 : Int32) (h0 : Heap) (n0 : Nat) (Z0 : n0 ≤ h0.size) (XO : Old Z n0 h0) (g0 : n0 ≤ d0) (hbd : b0 ≠ d0) (V1 : Arv Z h0 b0 kc .char (1 : Int32) [.int c0] (.int (0 : Int32))) (V2 : Arv Z h0 d0 k0 .byte (1 : Int32) [(.int (0 : Int32))] (.int (0 : Int32))) :
    own_Met l Z h0 (⟨"java/lang/StringUTF16", "compress", "([CI[BII)I"⟩ : MethodName) jdk_52_method_21_code 7 (some .int) ws { frames := 0, cells := 0, slots := 0, locals := 0 } #[(.ref b0), (.int (0 : Int32)), (.ref d0), (.int (0 : Int32)), (.int (1 : Int32))] (own_Q_cm51 Z d0 k0 c0 h0 n0) := by
  refine own_enter (plainFor_of_name own_pn2) (fun p e s m below meth c s₁ hx hby hlk hml hown hnm hret hZ X0 e0 => ?_)
  have N0 := Fr.nil n0
  refine own_st (S' := s₁.setTop (mkF m 0 #[.val (.ref b0), .val (.int (0 : Int32)), .val (.ref d0), .val (.int (0 : Int32)), .val (.int (1 : Int32)), .unset, .unset] [])) (fun _ k => castTop (own_ef_cm51 m b0 d0) k) ?_
  refine own_st (S' := s₁.setTop (mkF m 7 #[.val (.ref b0), .val (.int (0 : Int32)), .val (.ref d0), .val (.int (0 : Int32)), .val (.int (1 : Int32)), .val (.int (0 : Int32)), .unset] [(.int (1 : Int32)), (.int (0 : Int32))])) (fun _ k => XS.iconst X0.here hx rfl (hb hby own_d_jdk_52_method_21_code_0) (XS.istore X0.here hx rfl (hb hby own_d_jdk_52_method_21_code_1) rfl (l' := #[.val (.ref b0), .val (.int (0 : Int32)), .val (.ref d0), .val (.int (0 : Int32)), .val (.int (1 : Int32)), .val (.int (0 : Int32)), .unset]) rfl (XS.iload X0.here hx rfl (hb hby own_d_jdk_52_method_21_code_3) rfl (XS.iload X0.here hx rfl (hb hby own_d_jdk_52_method_21_code_5) rfl k)))) ?_
  refine own_st (S' := s₁.setTop (mkF m 12 #[.val (.ref b0), .val (.int (0 : Int32)), .val (.ref d0), .val (.int (0 : Int32)), .val (.int (1 : Int32)), .val (.int (0 : Int32)), .unset] [(.int (0 : Int32)), (.ref b0)])) (fun _ k => XS.icmpNo X0.here hx rfl (hb hby own_d_jdk_52_method_21_code_7) rfl (by decide) (XS.aloadN X0.here hx rfl (hb hby own_d_jdk_52_method_21_code_10) rfl rfl (XS.iloadN X0.here hx rfl (hb hby own_d_jdk_52_method_21_code_11) rfl k))) ?_
  obtain ⟨c101, A101, q101, S101, M101, H101, U101⟩ := id V1
  have i101 := inb_of (j := (0 : Int32)) S101 ⟨by decide, by decide⟩
  refine own_st (S' := s₁.setTop (mkF m 13 #[.val (.ref b0), .val (.int (0 : Int32)), .val (.ref d0), .val (.int (0 : Int32)), .val (.int (1 : Int32)), .val (.int (0 : Int32)), .unset] [(.int c0)])) (X0.caload hx (j := (0 : Int32)) (v := (.int c0)) (by rw [e0]; exact A101.1) (State.isArrayOf_alike hZ.alike A101.2.1) A101.2.2 i101 (H101.at i101 rfl) (g := (mkF m 12 #[.val (.ref b0), .val (.int (0 : Int32)), .val (.ref d0), .val (.int (0 : Int32)), .val (.int (1 : Int32)), .val (.int (0 : Int32)), .unset] [(.int (0 : Int32)), (.ref b0)])) rfl rfl (hb hby own_d_jdk_52_method_21_code_12)) ?_
  refine own_st (S' := s₁.setTop (mkF m 20 #[.val (.ref b0), .val (.int (0 : Int32)), .val (.ref d0), .val (.int (0 : Int32)), .val (.int (1 : Int32)), .val (.int (0 : Int32)), .val (.int c0)] [(.int (255 : Int32)), (.int c0)])) (fun _ k => XS.istore X0.here hx rfl (hb hby own_d_jdk_52_method_21_code_13) rfl (l' := #[.val (.ref b0), .val (.int (0 : Int32)), .val (.ref d0), .val (.int (0 : Int32)), .val (.int (1 : Int32)), .val (.int (0 : Int32)), .val (.int c0)]) rfl (XS.iload X0.here hx rfl (hb hby own_d_jdk_52_method_21_code_15) rfl (XS.sipush X0.here hx rfl (hb hby own_d_jdk_52_method_21_code_17) k))) ?_
  by_cases hc102 : (255 : Int32) < c0
  · refine own_st (S' := s₁.setTop (mkF m 25 #[.val (.ref b0), .val (.int (0 : Int32)), .val (.ref d0), .val (.int (0 : Int32)), .val (.int (1 : Int32)), .val (.int (0 : Int32)), .val (.int c0)] [(.int (0 : Int32))])) (fun _ k => XS.icmpNo X0.here hx rfl (hb hby own_d_jdk_52_method_21_code_20) rfl (tlt hc102).2.2.2 (XS.iload X0.here hx rfl (hb hby own_d_jdk_52_method_21_code_23) rfl k)) ?_
    refine own_ret X0 hx hret hlk rfl (Or.inl ⟨rfl, (by simp), _, rfl⟩) (hb hby own_d_jdk_52_method_21_code_25) (by decide) (by decide) ?_
    rw [e0]
    exact ⟨N0, (Keep.refl _ _), Or.inr ⟨0, by decide, rfl, hc102⟩⟩
  · refine own_st (S' := s₁.setTop (mkF m 30 #[.val (.ref b0), .val (.int (0 : Int32)), .val (.ref d0), .val (.int (0 : Int32)), .val (.int (1 : Int32)), .val (.int (0 : Int32)), .val (.int c0)] [(.int c0), (.int (0 : Int32)), (.ref d0)])) (fun _ k => XS.icmpYes X0.here hx rfl (pc0 := 20) (pc' := 26) rfl (hb hby own_d_jdk_52_method_21_code_20) rfl (flt hc102).2.2.2 (by decide) (by decide) (XS.aloadN X0.here hx rfl (hb hby own_d_jdk_52_method_21_code_26) rfl rfl (XS.iloadN X0.here hx rfl (hb hby own_d_jdk_52_method_21_code_27) rfl (XS.iload X0.here hx rfl (hb hby own_d_jdk_52_method_21_code_28) rfl k)))) ?_
    refine own_st (S' := s₁.setTop (mkF m 31 #[.val (.ref b0), .val (.int (0 : Int32)), .val (.ref d0), .val (.int (0 : Int32)), .val (.int (1 : Int32)), .val (.int (0 : Int32)), .val (.int c0)] [(.int (c0.toInt8.toInt32)), (.int (0 : Int32)), (.ref d0)])) (fun _ k => XS.i2b X0.here hx rfl (hb hby own_d_jdk_52_method_21_code_30) rfl k) ?_
    obtain ⟨c103, A103, q103, S103, M103, H103, U103⟩ := id V2
    obtain ⟨T103, h103, X103, e103, W103, st103⟩ := stB X0 hx hZ e0 A103 (j := (0 : Int32)) (inb_of S103 ⟨by decide, by decide⟩) (g := (mkF m 31 #[.val (.ref b0), .val (.int (0 : Int32)), .val (.ref d0), .val (.int (0 : Int32)), .val (.int (1 : Int32)), .val (.int (0 : Int32)), .val (.int c0)] [(.int (c0.toInt8.toInt32)), (.int (0 : Int32)), (.ref d0)])) rfl rfl (hb hby own_d_jdk_52_method_21_code_31)
    have N103 := Fr.snoc X103 N0 g0
    have V103 : Arv Z h103 d0 k0 .byte (1 : Int32) [(.int (nar .byte (c0.toInt8.toInt32)))] (.int (0 : Int32)) := Arv.set A103 q103 S103 M103 H103 U103 (fits_nar_byte _) W103 0 rfl (Nat.le_of_ble_eq_true rfl)
    refine own_st (S' := T103.setTop (mkF m 32 #[.val (.ref b0), .val (.int (0 : Int32)), .val (.ref d0), .val (.int (0 : Int32)), .val (.int (1 : Int32)), .val (.int (0 : Int32)), .val (.int c0)] [])) st103 ?_
    refine own_st (S' := T103.setTop (mkF m 3 #[.val (.ref b0), .val (.int (1 : Int32)), .val (.ref d0), .val (.int (1 : Int32)), .val (.int (1 : Int32)), .val (.int (1 : Int32)), .val (.int c0)] [])) (fun _ k => XS.iinc X103.here hx rfl (hb hby own_d_jdk_52_method_21_code_32) rfl (l' := #[.val (.ref b0), .val (.int (1 : Int32)), .val (.ref d0), .val (.int (0 : Int32)), .val (.int (1 : Int32)), .val (.int (0 : Int32)), .val (.int c0)]) rfl (XS.iinc X103.here hx rfl (hb hby own_d_jdk_52_method_21_code_35) rfl (l' := #[.val (.ref b0), .val (.int (1 : Int32)), .val (.ref d0), .val (.int (1 : Int32)), .val (.int (1 : Int32)), .val (.int (0 : Int32)), .val (.int c0)]) rfl (XS.iinc X103.here hx rfl (hb hby own_d_jdk_52_method_21_code_38) rfl (l' := #[.val (.ref b0), .val (.int (1 : Int32)), .val (.ref d0), .val (.int (1 : Int32)), .val (.int (1 : Int32)), .val (.int (1 : Int32)), .val (.int c0)]) rfl (XS.goto X103.here hx rfl (pc0 := 41) (pc' := 3) rfl (hb hby own_d_jdk_52_method_21_code_41) (by decide) (by decide) k)))) ?_
    refine own_st (S' := T103.setTop (mkF m 46 #[.val (.ref b0), .val (.int (1 : Int32)), .val (.ref d0), .val (.int (1 : Int32)), .val (.int (1 : Int32)), .val (.int (1 : Int32)), .val (.int c0)] [(.int (1 : Int32))])) (fun _ k => XS.iload X103.here hx rfl (hb hby own_d_jdk_52_method_21_code_3) rfl (XS.iload X103.here hx rfl (hb hby own_d_jdk_52_method_21_code_5) rfl (XS.icmpYes X103.here hx rfl (pc0 := 7) (pc' := 44) rfl (hb hby own_d_jdk_52_method_21_code_7) rfl (by decide) (by decide) (by decide) (XS.iload X103.here hx rfl (hb hby own_d_jdk_52_method_21_code_44) rfl k)))) ?_
    refine own_ret X103 hx hret hlk rfl (Or.inl ⟨rfl, (by simp), _, rfl⟩) (hb hby own_d_jdk_52_method_21_code_46) (by decide) (by decide) ?_
    rw [e103]
    exact ⟨N103, ((Keep.refl _ _).wr W103 (Or.inl (List.mem_of_getElem? (i := 0) rfl))), Or.inl ⟨rfl, hc102, (by have q := V103; rw [own_nb c0] at q; exact q)⟩⟩
def own_Q_cod11 (Z : State) (h0 : Heap) (n0 : Nat) (v : Option Value) (h : Heap) (L : List Loc) : Prop := v = some (.int 0) ∧ Fr n0 L ∧ h = h0
theorem own_ef_cod11 (m : MethodId) (d0 : Addr) : entryFrame m #[(.ref d0), (.int (1 : Int32))] 2 = mkF m 0 #[.val (.ref d0), .val (.int (1 : Int32))] [] := by first | (simp [entryFrame, mkF, argsToLocals, Value.category, maxLocals]; done) | rfl
set_option maxRecDepth 65536 in
set_option maxHeartbeats 40000000 in
theorem own_rm_cod11 (l : Launch) (Z : State) (a0 : Array Value) (hw : ∀ d ∈ tables_1, d.before a0 Z = true) (G1 : Int32) (S1 : Sta Z Z.heap "java/lang/String" "COMPACT_STRINGS" "Z" (.int G1)) (P1 : ¬ G1 = 0) (G3 : Value) (S3 : Sta Z Z.heap "jdk/internal/util/Preconditions" "SIOOBE_FORMATTER" "Ljava/util/function/BiFunction;" G3) (P3 : G3.isRef = true) (S4 : Sta Z Z.heap "java/lang/StringUTF16" "$assertionsDisabled" "Z" (.int (1 : Int32))) (S5 : Sta Z Z.heap "java/lang/StringUTF16" "HI_BYTE_SHIFT" "I" (.int (0 : Int32))) (S6 : Sta Z Z.heap "java/lang/StringUTF16" "LO_BYTE_SHIFT" "I" (.int (8 : Int32))) (ws : List Jvm.Cond) (d0 : Addr) (k0 : ClassId) (vs : List Value) (h0 : Heap) (n0 : Nat) (Z0 : n0 ≤ h0.size) (XO : Old Z n0 h0) (V1 : Arv Z h0 d0 k0 .byte (1 : Int32) vs (.int (0 : Int32))) :
    own_Met l Z h0 (⟨"java/lang/StringUTF16", "coderFromArrayLen", "([BI)B"⟩ : MethodName) jdk_52_method_15_code 2 (some .byte) ws { frames := 0, cells := 0, slots := 0, locals := 0 } #[(.ref d0), (.int (1 : Int32))] (own_Q_cod11 Z h0 n0) := by
  refine own_enter (plainFor_of_name own_pn2) (fun p e s m below meth c s₁ hx hby hlk hml hown hnm hret hZ X0 e0 => ?_)
  have N0 := Fr.nil n0
  refine own_st (S' := s₁.setTop (mkF m 0 #[.val (.ref d0), .val (.int (1 : Int32))] [])) (fun _ k => castTop (own_ef_cod11 m d0) k) ?_
  refine own_st (S' := s₁.setTop (mkF m 2 #[.val (.ref d0), .val (.int (1 : Int32))] [(.ref d0), (.int (1 : Int32))])) (fun _ k => XS.iloadN X0.here hx rfl (hb hby own_d_jdk_52_method_15_code_0) rfl (XS.aloadN X0.here hx rfl (hb hby own_d_jdk_52_method_15_code_1) rfl rfl k)) ?_
  obtain ⟨c101, A101, q101, S101, M101, H101, U101⟩ := id V1
  refine own_st (S' := s₁.setTop (mkF m 3 #[.val (.ref d0), .val (.int (1 : Int32))] [(.int (1 : Int32)), (.int (1 : Int32))])) (len_of S101 M101 ▸ X0.arraylength hx (by rw [e0]; exact A101.1) (State.isArrayOf_alike hZ.alike A101.2.1) (g := (mkF m 2 #[.val (.ref d0), .val (.int (1 : Int32))] [(.ref d0), (.int (1 : Int32))])) rfl rfl (hb hby own_d_jdk_52_method_15_code_2)) ?_
  refine own_st (S' := s₁.setTop (mkF m 7 #[.val (.ref d0), .val (.int (1 : Int32))] [(.int (((0 : Int32).toUInt32 >>> ((31 : Int32) &&& 31).toUInt32).toInt32))])) (fun _ k => XS.isub X0.here hx rfl (hb hby own_d_jdk_52_method_15_code_3) rfl (XS.bipush X0.here hx rfl (hb hby own_d_jdk_52_method_15_code_4) (XS.iushr X0.here hx rfl (hb hby own_d_jdk_52_method_15_code_6) rfl k))) ?_
  rw [show (((0 : Int32).toUInt32 >>> ((31 : Int32) &&& 31).toUInt32).toInt32) = (0 : Int32) from by decide]
  refine own_st (S' := s₁.setTop (mkF m 8 #[.val (.ref d0), .val (.int (1 : Int32))] [(.int ((0 : Int32).toInt8.toInt32))])) (fun _ k => XS.i2b X0.here hx rfl (hb hby own_d_jdk_52_method_15_code_7) rfl k) ?_
  rw [show ((0 : Int32).toInt8.toInt32) = (0 : Int32) from by decide]
  refine own_ret X0 hx hret hlk rfl (Or.inl ⟨rfl, (by simp), _, rfl⟩) (hb hby own_d_jdk_52_method_15_code_8) (by decide) (by decide) ?_
  rw [e0]
  exact ⟨rfl, N0, rfl⟩
def own_Q_cod12 (Z : State) (h0 : Heap) (n0 : Nat) (v : Option Value) (h : Heap) (L : List Loc) : Prop := v = some (.int 1) ∧ Fr n0 L ∧ h = h0
theorem own_ef_cod12 (m : MethodId) (d0 : Addr) : entryFrame m #[(.ref d0), (.int (1 : Int32))] 2 = mkF m 0 #[.val (.ref d0), .val (.int (1 : Int32))] [] := by first | (simp [entryFrame, mkF, argsToLocals, Value.category, maxLocals]; done) | rfl
set_option maxRecDepth 65536 in
set_option maxHeartbeats 40000000 in
theorem own_rm_cod12 (l : Launch) (Z : State) (a0 : Array Value) (hw : ∀ d ∈ tables_1, d.before a0 Z = true) (G1 : Int32) (S1 : Sta Z Z.heap "java/lang/String" "COMPACT_STRINGS" "Z" (.int G1)) (P1 : ¬ G1 = 0) (G3 : Value) (S3 : Sta Z Z.heap "jdk/internal/util/Preconditions" "SIOOBE_FORMATTER" "Ljava/util/function/BiFunction;" G3) (P3 : G3.isRef = true) (S4 : Sta Z Z.heap "java/lang/StringUTF16" "$assertionsDisabled" "Z" (.int (1 : Int32))) (S5 : Sta Z Z.heap "java/lang/StringUTF16" "HI_BYTE_SHIFT" "I" (.int (0 : Int32))) (S6 : Sta Z Z.heap "java/lang/StringUTF16" "LO_BYTE_SHIFT" "I" (.int (8 : Int32))) (ws : List Jvm.Cond) (d0 : Addr) (k0 : ClassId) (vs : List Value) (h0 : Heap) (n0 : Nat) (Z0 : n0 ≤ h0.size) (XO : Old Z n0 h0) (V1 : Arv Z h0 d0 k0 .byte (2 : Int32) vs (.int (0 : Int32))) :
    own_Met l Z h0 (⟨"java/lang/StringUTF16", "coderFromArrayLen", "([BI)B"⟩ : MethodName) jdk_52_method_15_code 2 (some .byte) ws { frames := 0, cells := 0, slots := 0, locals := 0 } #[(.ref d0), (.int (1 : Int32))] (own_Q_cod12 Z h0 n0) := by
  refine own_enter (plainFor_of_name own_pn2) (fun p e s m below meth c s₁ hx hby hlk hml hown hnm hret hZ X0 e0 => ?_)
  have N0 := Fr.nil n0
  refine own_st (S' := s₁.setTop (mkF m 0 #[.val (.ref d0), .val (.int (1 : Int32))] [])) (fun _ k => castTop (own_ef_cod12 m d0) k) ?_
  refine own_st (S' := s₁.setTop (mkF m 2 #[.val (.ref d0), .val (.int (1 : Int32))] [(.ref d0), (.int (1 : Int32))])) (fun _ k => XS.iloadN X0.here hx rfl (hb hby own_d_jdk_52_method_15_code_0) rfl (XS.aloadN X0.here hx rfl (hb hby own_d_jdk_52_method_15_code_1) rfl rfl k)) ?_
  obtain ⟨c101, A101, q101, S101, M101, H101, U101⟩ := id V1
  refine own_st (S' := s₁.setTop (mkF m 3 #[.val (.ref d0), .val (.int (1 : Int32))] [(.int (2 : Int32)), (.int (1 : Int32))])) (len_of S101 M101 ▸ X0.arraylength hx (by rw [e0]; exact A101.1) (State.isArrayOf_alike hZ.alike A101.2.1) (g := (mkF m 2 #[.val (.ref d0), .val (.int (1 : Int32))] [(.ref d0), (.int (1 : Int32))])) rfl rfl (hb hby own_d_jdk_52_method_15_code_2)) ?_
  refine own_st (S' := s₁.setTop (mkF m 7 #[.val (.ref d0), .val (.int (1 : Int32))] [(.int (((-1 : Int32).toUInt32 >>> ((31 : Int32) &&& 31).toUInt32).toInt32))])) (fun _ k => XS.isub X0.here hx rfl (hb hby own_d_jdk_52_method_15_code_3) rfl (XS.bipush X0.here hx rfl (hb hby own_d_jdk_52_method_15_code_4) (XS.iushr X0.here hx rfl (hb hby own_d_jdk_52_method_15_code_6) rfl k))) ?_
  rw [show (((-1 : Int32).toUInt32 >>> ((31 : Int32) &&& 31).toUInt32).toInt32) = (1 : Int32) from by decide]
  refine own_st (S' := s₁.setTop (mkF m 8 #[.val (.ref d0), .val (.int (1 : Int32))] [(.int ((1 : Int32).toInt8.toInt32))])) (fun _ k => XS.i2b X0.here hx rfl (hb hby own_d_jdk_52_method_15_code_7) rfl k) ?_
  rw [show ((1 : Int32).toInt8.toInt32) = (1 : Int32) from by decide]
  refine own_ret X0 hx hret hlk rfl (Or.inl ⟨rfl, (by simp), _, rfl⟩) (hb hby own_d_jdk_52_method_15_code_8) (by decide) (by decide) ?_
  rw [e0]
  exact ⟨rfl, N0, rfl⟩
def own_Q_cm31 (Z : State) (c0 : Int32) (h0 : Heap) (n0 : Nat) (v : Option Value) (h : Heap) (L : List Loc) : Prop := ∃ (r : Addr) (k : ClassId), v = some (.ref r) ∧ Fr n0 L ∧ Ext h0 h ∧ h0.size ≤ r ∧ (((¬ ((255 : Int32) < c0)) ∧ Arv Z h r k .byte (1 : Int32) [.int (StrChars.lo8 c0)] (.int (0 : Int32))) ∨ (((255 : Int32) < c0) ∧ Arv Z h r k .byte (2 : Int32) [.int (StrChars.lo8 c0), .int (StrChars.hi8 c0)] (.int (0 : Int32))))
theorem own_ef_cm31 (m : MethodId) (b0 : Addr) : entryFrame m #[(.ref b0), (.int (0 : Int32)), (.int (1 : Int32))] 6 = mkF m 0 #[.val (.ref b0), .val (.int (0 : Int32)), .val (.int (1 : Int32)), .unset, .unset, .unset] [] := by first | (simp [entryFrame, mkF, argsToLocals, Value.category, maxLocals]; done) | rfl
set_option maxRecDepth 65536 in
set_option maxHeartbeats 40000000 in
theorem own_rm_cm31 (l : Launch) (Z : State) (a0 : Array Value) (hw : ∀ d ∈ tables_1, d.before a0 Z = true) (G1 : Int32) (S1 : Sta Z Z.heap "java/lang/String" "COMPACT_STRINGS" "Z" (.int G1)) (P1 : ¬ G1 = 0) (G3 : Value) (S3 : Sta Z Z.heap "jdk/internal/util/Preconditions" "SIOOBE_FORMATTER" "Ljava/util/function/BiFunction;" G3) (P3 : G3.isRef = true) (S4 : Sta Z Z.heap "java/lang/StringUTF16" "$assertionsDisabled" "Z" (.int (1 : Int32))) (S5 : Sta Z Z.heap "java/lang/StringUTF16" "HI_BYTE_SHIFT" "I" (.int (0 : Int32))) (S6 : Sta Z Z.heap "java/lang/StringUTF16" "LO_BYTE_SHIFT" "I" (.int (8 : Int32))) (ws : List Jvm.Cond) (b0 : Addr) (kc : ClassId) (c0 : Int32) (h0 : Heap) (n0 : Nat) (Z0 : n0 ≤ h0.size) (XO : Old Z n0 h0) (V1 : Arv Z h0 b0 kc .char (1 : Int32) [.int c0] (.int (0 : Int32))) (hp0 : ¬ c0 < 0 ∧ ¬ (65535 : Int32) < c0) :
    own_Met l Z h0 (⟨"java/lang/StringUTF16", "compress", "([CII)[B"⟩ : MethodName) jdk_52_method_16_code 6 (some (.array .byte)) ws { frames := 3, cells := 2, slots := 3, locals := 40 } #[(.ref b0), (.int (0 : Int32)), (.int (1 : Int32))] (own_Q_cm31 Z c0 h0 n0) := by
  refine own_enter (plainFor_of_name own_pn2) (fun p e s m below meth c s₁ hx hby hlk hml hown hnm hret hZ X0 e0 => ?_)
  have N0 := Fr.nil n0
  refine own_st (S' := s₁.setTop (mkF m 0 #[.val (.ref b0), .val (.int (0 : Int32)), .val (.int (1 : Int32)), .unset, .unset, .unset] [])) (fun _ k => castTop (own_ef_cm31 m b0) k) ?_
  refine own_st (S' := s₁.setTop (mkF m 1 #[.val (.ref b0), .val (.int (0 : Int32)), .val (.int (1 : Int32)), .unset, .unset, .unset] [(.int (1 : Int32))])) (fun _ k => XS.iloadN X0.here hx rfl (hb hby own_d_jdk_52_method_16_code_0) rfl k) ?_
  obtain ⟨T101, h101, k101, X101, e101, E101, A101, AE101, st101⟩ := newPE X0 hx hZ (aty := .byte) (hw _ own_w24) e0 (g := (mkF m 1 #[.val (.ref b0), .val (.int (0 : Int32)), .val (.int (1 : Int32)), .unset, .unset, .unset] [(.int (1 : Int32))])) rfl (hb hby own_d_jdk_52_method_16_code_1) rfl (by decide) (cap := 1) (by decide) (by decide) (by decide) (by decide) (ad := "[B") (by decide)
  obtain ⟨b101, g101⟩ : ∃ z, z = h0.size := ⟨_, rfl⟩
  rw [← g101] at A101 AE101 st101
  have V101 : Arv Z h101 b101 k101 .byte (1 : Int32) [(.int (0 : Int32))] (.int (0 : Int32)) := (Arv.new A101 (by decide)).pad (pad_rep [] (.int (0 : Int32)) 1)
  refine own_st (S' := T101.setTop (mkF m 3 #[.val (.ref b0), .val (.int (0 : Int32)), .val (.int (1 : Int32)), .unset, .unset, .unset] [(.ref b101)])) st101 ?_
  refine own_st (S' := T101.setTop (mkF m 7 #[.val (.ref b0), .val (.int (0 : Int32)), .val (.int (1 : Int32)), .val (.ref b101), .unset, .unset] [(.ref b101), (.int (0 : Int32)), (.ref b0)])) (fun _ k => XS.astoreN X101.here hx rfl (hb hby own_d_jdk_52_method_16_code_3) rfl rfl (l' := #[.val (.ref b0), .val (.int (0 : Int32)), .val (.int (1 : Int32)), .val (.ref b101), .unset, .unset]) rfl (XS.aloadN X101.here hx rfl (hb hby own_d_jdk_52_method_16_code_4) rfl rfl (XS.iloadN X101.here hx rfl (hb hby own_d_jdk_52_method_16_code_5) rfl (XS.aloadN X101.here hx rfl (hb hby own_d_jdk_52_method_16_code_6) rfl rfl k)))) ?_
  refine own_st (S' := T101.setTop (mkF m 9 #[.val (.ref b0), .val (.int (0 : Int32)), .val (.int (1 : Int32)), .val (.ref b101), .unset, .unset] [(.int (1 : Int32)), (.int (0 : Int32)), (.ref b101), (.int (0 : Int32)), (.ref b0)])) (fun _ k => XS.iconst X101.here hx rfl (hb hby own_d_jdk_52_method_16_code_7) (XS.iloadN X101.here hx rfl (hb hby own_d_jdk_52_method_16_code_8) rfl k)) ?_
  have V102 : Arv Z h101 b0 kc .char (1 : Int32) [(.int c0)] (.int (0 : Int32)) := (V1.ext E101)
  have XO103 : Old Z n0 h101 := (XO.ext E101)
  obtain ⟨_, _, ⟨T104, L104, k104, n104⟩, -, X104, ⟨Lc104, hQ104, l104, y104, z104⟩, st104⟩ := Jvm.LawKit.callS X101 hx (y := (⟨"java/lang/StringUTF16", "compress", "([CI[BII)I"⟩ : MethodName)) hown (mvT hZ (hw _ own_w25)) (mvT hZ (hw _ own_w26)) (mvT hZ (hw _ own_w22)) (mvT hZ (hw _ own_w27)) (by decide) (backOf (W := 0) (own_rm_cm51 l Z a0 hw G1 S1 P1 G3 S3 P3 S4 S5 S6 [] b0 b101 kc k101 c0 h101 n0 (Nat.le_trans Z0 E101.1) XO103 (Nat.le_trans Z0 (Nat.le_of_eq g101.symm)) (Nat.ne_of_lt (Nat.lt_of_lt_of_le V1.lt (Nat.le_of_eq g101.symm))) V102 V101) hZ (hw _ own_w27) (hw _ own_w22) (by decide) (by decide)) (g := (mkF m 9 #[.val (.ref b0), .val (.int (0 : Int32)), .val (.int (1 : Int32)), .val (.ref b101), .unset, .unset] [(.int (1 : Int32)), (.int (0 : Int32)), (.ref b101), (.int (0 : Int32)), (.ref b0)])) rfl (by rw [hml]; rfl) (argsL := [(.ref b0), (.int (0 : Int32)), (.ref b101), (.int (0 : Int32)), (.int (1 : Int32))]) (rest := []) (lenOf own_pd9 rfl) rfl (by show 2 * 0 + _ ≤ _; exact Nat.le_of_eq rfl) (hb hby own_d_jdk_52_method_16_code_9) (fun _ _ => ⟨rfl, e101, (by decide : 1 + 0 ≤ _), (by decide : 1 + 0 ≤ _)⟩)
  dsimp only [Pt.U, Pt.locs, Pt.cells, Pt.slots] at X104 l104 y104 z104 st104 hQ104
  subst l104 y104 z104
  obtain ⟨M104, K104, o104⟩ := hQ104
  have N104 := Fr.app N0 M104
  obtain ⟨h104, e104⟩ : ∃ z, T104.heap = z := ⟨_, rfl⟩
  rw [e104] at K104 o104
  rcases o104 with ⟨rfl, hs104, V104⟩ | ⟨j104, hj104, rfl, hb104⟩
  · refine own_st (S' := T104.setTop (mkF m 12 #[.val (.ref b0), .val (.int (0 : Int32)), .val (.int (1 : Int32)), .val (.ref b101), .unset, .unset] [(.int (1 : Int32))])) st104 ?_
    refine own_st (S' := T104.setTop (mkF m 57 #[.val (.ref b0), .val (.int (0 : Int32)), .val (.int (1 : Int32)), .val (.ref b101), .val (.int (1 : Int32)), .unset] [])) (fun _ k => XS.istore X104.here hx rfl (hb hby own_d_jdk_52_method_16_code_12) rfl (l' := #[.val (.ref b0), .val (.int (0 : Int32)), .val (.int (1 : Int32)), .val (.ref b101), .val (.int (1 : Int32)), .unset]) rfl (XS.iload X104.here hx rfl (hb hby own_d_jdk_52_method_16_code_14) rfl (XS.iloadN X104.here hx rfl (hb hby own_d_jdk_52_method_16_code_16) rfl (XS.icmpYes X104.here hx rfl (pc0 := 17) (pc' := 57) rfl (hb hby own_d_jdk_52_method_16_code_17) rfl (by decide) (by decide) (by decide) k)))) ?_
    refine own_st (S' := T104.setTop (mkF m 58 #[.val (.ref b0), .val (.int (0 : Int32)), .val (.int (1 : Int32)), .val (.ref b101), .val (.int (1 : Int32)), .unset] [(.ref b101)])) (fun _ k => XS.aloadN X104.here hx rfl (hb hby own_d_jdk_52_method_16_code_57) rfl rfl k) ?_
    have XE105 : Ext h0 h104 := (own_xk E101 K104 (allS (Nat.le_of_eq g101.symm) all0))
    refine own_ret X104 hx hret hlk rfl (Or.inr (Or.inr (Or.inr (Or.inr ⟨rfl, rfl, rfl⟩)))) (hb hby own_d_jdk_52_method_16_code_58) (by decide) (by decide) ?_
    rw [e104]
    exact ⟨b101, k101, rfl, N104, XE105, (Nat.le_of_eq g101.symm), Or.inl ⟨hs104, V104⟩⟩
  · have hjj : j104 = 0 := by omega
    rcases hjj with rfl
    · refine own_st (S' := T104.setTop (mkF m 12 #[.val (.ref b0), .val (.int (0 : Int32)), .val (.int (1 : Int32)), .val (.ref b101), .unset, .unset] [(.int (0 : Int32))])) st104 ?_
      refine own_st (S' := T104.setTop (mkF m 20 #[.val (.ref b0), .val (.int (0 : Int32)), .val (.int (1 : Int32)), .val (.ref b101), .val (.int (0 : Int32)), .unset] [])) (fun _ k => XS.istore X104.here hx rfl (hb hby own_d_jdk_52_method_16_code_12) rfl (l' := #[.val (.ref b0), .val (.int (0 : Int32)), .val (.int (1 : Int32)), .val (.ref b101), .val (.int (0 : Int32)), .unset]) rfl (XS.iload X104.here hx rfl (hb hby own_d_jdk_52_method_16_code_14) rfl (XS.iloadN X104.here hx rfl (hb hby own_d_jdk_52_method_16_code_16) rfl (XS.icmpNo X104.here hx rfl (hb hby own_d_jdk_52_method_16_code_17) rfl (by decide) k)))) ?_
      refine own_st (S' := T104.setTop (mkF m 23 #[.val (.ref b0), .val (.int (0 : Int32)), .val (.int (1 : Int32)), .val (.ref b101), .val (.int (0 : Int32)), .unset] [(.int (1 : Int32)), (.int (0 : Int32)), (.ref b0)])) (fun _ k => XS.aloadN X104.here hx rfl (hb hby own_d_jdk_52_method_16_code_20) rfl rfl (XS.iloadN X104.here hx rfl (hb hby own_d_jdk_52_method_16_code_21) rfl (XS.iloadN X104.here hx rfl (hb hby own_d_jdk_52_method_16_code_22) rfl k))) ?_
      have V106 : Arv Z h104 b0 kc .char (1 : Int32) [(.int c0)] (.int (0 : Int32)) := (V102.keep K104 (ninS (Nat.ne_of_lt (Nat.lt_of_lt_of_le V1.lt (Nat.le_of_eq g101.symm))) nin0))
      have XO107 : Old Z n0 h104 := (XO103.keep K104 (allS (Nat.le_trans Z0 (Nat.le_of_eq g101.symm)) all0))
      obtain ⟨_, _, ⟨T108, L108, k108, n108⟩, -, X108, ⟨Lc108, hQ108, l108, y108, z108⟩, st108⟩ := Jvm.LawKit.callS X104 hx (y := (⟨"java/lang/StringUTF16", "toBytes", "([CII)[B"⟩ : MethodName)) hown (mvT hZ (hw _ own_w76)) (mvT hZ (hw _ own_w77)) (mvT hZ (hw _ own_w22)) (mvT hZ (hw _ own_w78)) (by decide) (backOf (W := 0) (own_rm_tob1 l Z a0 hw G1 S1 P1 G3 S3 P3 S4 S5 S6 [] b0 kc c0 h104 n0 (Nat.le_trans Z0 (Nat.le_trans E101.1 K104.1)) XO107 V106) hZ (hw _ own_w78) (hw _ own_w22) (by decide) (by decide)) (g := (mkF m 23 #[.val (.ref b0), .val (.int (0 : Int32)), .val (.int (1 : Int32)), .val (.ref b101), .val (.int (0 : Int32)), .unset] [(.int (1 : Int32)), (.int (0 : Int32)), (.ref b0)])) rfl (by rw [hml]; rfl) (argsL := [(.ref b0), (.int (0 : Int32)), (.int (1 : Int32))]) (rest := []) (lenOf own_pd10 rfl) rfl (by show 2 * 0 + _ ≤ _; exact Nat.le_of_eq rfl) (hb hby own_d_jdk_52_method_16_code_23) (fun _ _ => ⟨rfl, e104, (by decide : 1 + 1 ≤ _), (by decide : 1 + 2 ≤ _)⟩)
      dsimp only [Pt.U, Pt.locs, Pt.cells, Pt.slots] at X108 l108 y108 z108 st108 hQ108
      subst l108 y108 z108
      obtain ⟨r108, kr108, rfl, M108, E108, g108, V108⟩ := hQ108
      have N108 := Fr.app N104 M108
      obtain ⟨h108, e108⟩ : ∃ z, T108.heap = z := ⟨_, rfl⟩
      rw [e108] at E108 V108
      refine own_st (S' := T108.setTop (mkF m 26 #[.val (.ref b0), .val (.int (0 : Int32)), .val (.int (1 : Int32)), .val (.ref b101), .val (.int (0 : Int32)), .unset] [(.ref r108)])) st108 ?_
      refine own_st (S' := T108.setTop (mkF m 32 #[.val (.ref b0), .val (.int (0 : Int32)), .val (.int (1 : Int32)), .val (.ref b101), .val (.int (0 : Int32)), .val (.ref r108)] [(.int (0 : Int32)), (.ref r108)])) (fun _ k => XS.astore X108.here hx rfl (hb hby own_d_jdk_52_method_16_code_26) rfl rfl (l' := #[.val (.ref b0), .val (.int (0 : Int32)), .val (.int (1 : Int32)), .val (.ref b101), .val (.int (0 : Int32)), .val (.ref r108)]) rfl (XS.aload X108.here hx rfl (hb hby own_d_jdk_52_method_16_code_28) rfl rfl (XS.iload X108.here hx rfl (hb hby own_d_jdk_52_method_16_code_30) rfl k))) ?_
      have XO109 : Old Z n0 h108 := (XO107.ext E108)
      obtain ⟨_, _, ⟨T110, L110, k110, n110⟩, -, X110, ⟨Lc110, hQ110, l110, y110, z110⟩, st110⟩ := Jvm.LawKit.callS X108 hx (y := (⟨"java/lang/StringUTF16", "getChar", "([BI)C"⟩ : MethodName)) hown (mvT hZ (hw _ own_w92)) (mvT hZ (hw _ own_w93)) (mvT hZ (hw _ own_w22)) (mvT hZ (hw _ own_w94)) (by decide) (backOf (W := 0) (own_rm_getc l Z a0 hw G1 S1 P1 G3 S3 P3 S4 S5 S6 [] r108 (0 : Int32) (0 : Int32) (2 : Int32) (StrChars.lo8 c0) (StrChars.hi8 c0) kr108 _ h108 n0 (Nat.le_trans Z0 (Nat.le_trans (Nat.le_trans E101.1 K104.1) E108.1)) XO109 V108 (by decide) ⟨by decide, by decide⟩ ⟨by decide, by decide⟩ rfl rfl) hZ (hw _ own_w94) (hw _ own_w22) (by decide) (by decide)) (g := (mkF m 32 #[.val (.ref b0), .val (.int (0 : Int32)), .val (.int (1 : Int32)), .val (.ref b101), .val (.int (0 : Int32)), .val (.ref r108)] [(.int (0 : Int32)), (.ref r108)])) rfl (by rw [hml]; rfl) (argsL := [(.ref r108), (.int (0 : Int32))]) (rest := []) (lenOf own_pd4 rfl) rfl (by show 2 * 0 + _ ≤ _; exact Nat.le_of_eq rfl) (hb hby own_d_jdk_52_method_16_code_32) (fun _ _ => ⟨rfl, e108, (by decide : 2 + 0 ≤ _), (by decide : 3 + 0 ≤ _)⟩)
      dsimp only [Pt.U, Pt.locs, Pt.cells, Pt.slots] at X110 l110 y110 z110 st110 hQ110
      subst l110 y110 z110
      obtain ⟨rfl, M110, e110⟩ := hQ110
      have N110 := Fr.app N108 M110
      refine own_st (S' := T110.setTop (mkF m 35 #[.val (.ref b0), .val (.int (0 : Int32)), .val (.int (1 : Int32)), .val (.ref b101), .val (.int (0 : Int32)), .val (.ref r108)] [(.int (StrChars.pairCh (StrChars.lo8 c0) (StrChars.hi8 c0)))])) st110 ?_
      rw [StrChars.pair_says hp0.1 hp0.2]
      refine own_st (S' := T110.setTop (mkF m 56 #[.val (.ref b0), .val (.int (0 : Int32)), .val (.int (1 : Int32)), .val (.ref b101), .val (.int (0 : Int32)), .val (.ref r108)] [(.ref r108)])) (fun _ k => XS.sipush X110.here hx rfl (hb hby own_d_jdk_52_method_16_code_35) (XS.icmpYes X110.here hx rfl (pc0 := 38) (pc' := 54) rfl (hb hby own_d_jdk_52_method_16_code_38) rfl (tlt hb104).2.2.1 (by decide) (by decide) (XS.aload X110.here hx rfl (hb hby own_d_jdk_52_method_16_code_54) rfl rfl k))) ?_
      have XE111 : Ext h0 h108 := (own_xt (own_xk E101 K104 (allS (Nat.le_of_eq g101.symm) all0)) E108)
      refine own_ret X110 hx hret hlk rfl (Or.inr (Or.inr (Or.inr (Or.inr ⟨rfl, rfl, rfl⟩)))) (hb hby own_d_jdk_52_method_16_code_56) (by decide) (by decide) ?_
      rw [e110]
      exact ⟨r108, kr108, rfl, N110, XE111, (Nat.le_trans (Nat.le_trans E101.1 K104.1) g108), Or.inr ⟨hb104, V108⟩⟩
def own_Q_in41 (Z : State) (x0 : Addr) (c0 : Int32) (h0 : Heap) (n0 : Nat) (v : Option Value) (h : Heap) (L : List Loc) : Prop := v = none ∧ Fr n0 L ∧ Keep h0 h [x0] ∧ own_Str Z h x0 [c0]
theorem own_ef_in41 (m : MethodId) (x0 : Addr) (b0 : Addr) : entryFrame m #[(.ref x0), (.ref b0), (.int (0 : Int32)), (.int (1 : Int32)), .null] 6 = mkF m 0 #[.val (.ref x0), .val (.ref b0), .val (.int (0 : Int32)), .val (.int (1 : Int32)), .val .null, .unset] [] := by first | (simp [entryFrame, mkF, argsToLocals, Value.category, maxLocals]; done) | rfl
set_option maxRecDepth 65536 in
set_option maxHeartbeats 40000000 in
theorem own_rm_in41 (l : Launch) (Z : State) (a0 : Array Value) (hw : ∀ d ∈ tables_1, d.before a0 Z = true) (G1 : Int32) (S1 : Sta Z Z.heap "java/lang/String" "COMPACT_STRINGS" "Z" (.int G1)) (P1 : ¬ G1 = 0) (G3 : Value) (S3 : Sta Z Z.heap "jdk/internal/util/Preconditions" "SIOOBE_FORMATTER" "Ljava/util/function/BiFunction;" G3) (P3 : G3.isRef = true) (S4 : Sta Z Z.heap "java/lang/StringUTF16" "$assertionsDisabled" "Z" (.int (1 : Int32))) (S5 : Sta Z Z.heap "java/lang/StringUTF16" "HI_BYTE_SHIFT" "I" (.int (0 : Int32))) (S6 : Sta Z Z.heap "java/lang/StringUTF16" "LO_BYTE_SHIFT" "I" (.int (8 : Int32))) (ws : List Jvm.Cond) (x0 b0 : Addr) (kc : ClassId) (c0 : Int32) (h0 : Heap) (n0 : Nat) (Z0 : n0 ≤ h0.size) (XO : Old Z n0 h0) (g0 : n0 ≤ x0) (E1 : Exa Z h0 x0 "java/lang/String") (F1 : Fld Z h0 x0 "java/lang/String" "value" "[B" .null) (F2 : Fld Z h0 x0 "java/lang/String" "coder" "B" (.int (0 : Int32))) (V1 : Arv Z h0 b0 kc .char (1 : Int32) [.int c0] (.int (0 : Int32))) (hp0 : ¬ c0 < 0 ∧ ¬ (65535 : Int32) < c0) :
    own_Met l Z h0 (⟨"java/lang/String", "<init>", "([CIILjava/lang/Void;)V"⟩ : MethodName) jdk_42_method_149_code 6 (none) ws { frames := 4, cells := 2, slots := 3, locals := 57 } #[(.ref x0), (.ref b0), (.int (0 : Int32)), (.int (1 : Int32)), .null] (own_Q_in41 Z x0 c0 h0 n0) := by
  refine own_enter (plainFor_of_name own_pn1) (fun p e s m below meth c s₁ hx hby hlk hml hown hnm hret hZ X0 e0 => ?_)
  have N0 := Fr.nil n0
  refine own_st (S' := s₁.setTop (mkF m 0 #[.val (.ref x0), .val (.ref b0), .val (.int (0 : Int32)), .val (.int (1 : Int32)), .val .null, .unset] [])) (fun _ k => castTop (own_ef_in41 m x0 b0) k) ?_
  refine own_st (S' := s₁.setTop (mkF m 1 #[.val (.ref x0), .val (.ref b0), .val (.int (0 : Int32)), .val (.int (1 : Int32)), .val .null, .unset] [(.ref x0)])) (fun _ k => XS.aloadN X0.here hx rfl (hb hby own_d_jdk_42_method_149_code_0) rfl rfl k) ?_
  obtain ⟨T101, X101, e101, st101⟩ := initO X0 hx hZ hown (hw _ own_w16) (hw _ own_w17) (hw _ own_w18) e0 (g := (mkF m 1 #[.val (.ref x0), .val (.ref b0), .val (.int (0 : Int32)), .val (.int (1 : Int32)), .val .null, .unset] [(.ref x0)])) rfl (by rw [hml]; rfl) rfl (hb hby own_d_jdk_42_method_149_code_1) (by decide) (W := 0) (by show 2 * 0 + _ ≤ _; exact Nat.le_of_eq rfl) (by decide)
  refine own_st (S' := T101.setTop (mkF m 4 #[.val (.ref x0), .val (.ref b0), .val (.int (0 : Int32)), .val (.int (1 : Int32)), .val .null, .unset] [])) st101 ?_
  refine own_st (S' := T101.setTop (mkF m 27 #[.val (.ref x0), .val (.ref b0), .val (.int (0 : Int32)), .val (.int (1 : Int32)), .val .null, .unset] [])) (fun _ k => XS.iloadN X101.here hx rfl (hb hby own_d_jdk_42_method_149_code_4) rfl (XS.ifYes X101.here hx rfl (pc0 := 5) (pc' := 27) rfl (hb hby own_d_jdk_42_method_149_code_5) rfl (by decide) (by decide) (by decide) k)) ?_
  have S102 : Sta Z h0 "java/lang/String" "COMPACT_STRINGS" "Z" (.int G1) := (S1.ext XO.2)
  obtain ⟨T103, X103, e103, st103⟩ := getS2 X101 hx hZ hown (host := "") (Or.inl (hw _ own_w19)) Via.refl e101 S102 (g := (mkF m 27 #[.val (.ref x0), .val (.ref b0), .val (.int (0 : Int32)), .val (.int (1 : Int32)), .val .null, .unset] [])) rfl (hb hby own_d_jdk_42_method_149_code_27)
  refine own_st (S' := T103.setTop (mkF m 30 #[.val (.ref x0), .val (.ref b0), .val (.int (0 : Int32)), .val (.int (1 : Int32)), .val .null, .unset] [(.int G1)])) st103 ?_
  refine own_st (S' := T103.setTop (mkF m 36 #[.val (.ref x0), .val (.ref b0), .val (.int (0 : Int32)), .val (.int (1 : Int32)), .val .null, .unset] [(.int (1 : Int32)), (.int (0 : Int32)), (.ref b0)])) (fun _ k => XS.ifNo X103.here hx rfl (hb hby own_d_jdk_42_method_149_code_30) rfl ((if0 _ _).trans (feq P1).1) (XS.aloadN X103.here hx rfl (hb hby own_d_jdk_42_method_149_code_33) rfl rfl (XS.iloadN X103.here hx rfl (hb hby own_d_jdk_42_method_149_code_34) rfl (XS.iloadN X103.here hx rfl (hb hby own_d_jdk_42_method_149_code_35) rfl k)))) ?_
  obtain ⟨_, _, ⟨T104, L104, k104, n104⟩, -, X104, ⟨Lc104, hQ104, l104, y104, z104⟩, st104⟩ := Jvm.LawKit.callS X103 hx (y := (⟨"java/lang/StringUTF16", "compress", "([CII)[B"⟩ : MethodName)) hown (mvT hZ (hw _ own_w20)) (mvT hZ (hw _ own_w21)) (mvT hZ (hw _ own_w22)) (mvT hZ (hw _ own_w23)) (by decide) (backOf (W := 0) (own_rm_cm31 l Z a0 hw G1 S1 P1 G3 S3 P3 S4 S5 S6 [] b0 kc c0 h0 n0 (Nat.le_trans Z0 (Nat.le_refl _)) XO V1 hp0) hZ (hw _ own_w23) (hw _ own_w22) (by decide) (by decide)) (g := (mkF m 36 #[.val (.ref x0), .val (.ref b0), .val (.int (0 : Int32)), .val (.int (1 : Int32)), .val .null, .unset] [(.int (1 : Int32)), (.int (0 : Int32)), (.ref b0)])) rfl (by rw [hml]; rfl) (argsL := [(.ref b0), (.int (0 : Int32)), (.int (1 : Int32))]) (rest := []) (lenOf own_pd10 rfl) rfl (by show 2 * 0 + _ ≤ _; exact Nat.le_of_eq rfl) (hb hby own_d_jdk_42_method_149_code_36) (fun _ _ => ⟨rfl, e103, (by decide : 0 + 2 ≤ _), (by decide : 0 + 3 ≤ _)⟩)
  dsimp only [Pt.U, Pt.locs, Pt.cells, Pt.slots] at X104 l104 y104 z104 st104 hQ104
  subst l104 y104 z104
  obtain ⟨r104, kr104, rfl, M104, E104, g104, o104⟩ := hQ104
  have N104 := Fr.app N0 M104
  obtain ⟨h104, e104⟩ : ∃ z, T104.heap = z := ⟨_, rfl⟩
  rw [e104] at E104 o104
  rcases o104 with ⟨hs104, V104⟩ | ⟨hs104, V104⟩
  · refine own_st (S' := T104.setTop (mkF m 39 #[.val (.ref x0), .val (.ref b0), .val (.int (0 : Int32)), .val (.int (1 : Int32)), .val .null, .unset] [(.ref r104)])) st104 ?_
    refine own_st (S' := T104.setTop (mkF m 45 #[.val (.ref x0), .val (.ref b0), .val (.int (0 : Int32)), .val (.int (1 : Int32)), .val .null, .val (.ref r104)] [(.int (1 : Int32)), (.ref r104), (.ref x0)])) (fun _ k => XS.astore X104.here hx rfl (hb hby own_d_jdk_42_method_149_code_39) rfl rfl (l' := #[.val (.ref x0), .val (.ref b0), .val (.int (0 : Int32)), .val (.int (1 : Int32)), .val .null, .val (.ref r104)]) rfl (XS.aloadN X104.here hx rfl (hb hby own_d_jdk_42_method_149_code_41) rfl rfl (XS.aload X104.here hx rfl (hb hby own_d_jdk_42_method_149_code_42) rfl rfl (XS.iloadN X104.here hx rfl (hb hby own_d_jdk_42_method_149_code_44) rfl k)))) ?_
    have XO105 : Old Z n0 h104 := (XO.ext E104)
    obtain ⟨_, _, ⟨T106, L106, k106, n106⟩, -, X106, ⟨Lc106, hQ106, l106, y106, z106⟩, st106⟩ := Jvm.LawKit.callS X104 hx (y := (⟨"java/lang/StringUTF16", "coderFromArrayLen", "([BI)B"⟩ : MethodName)) hown (mvT hZ (hw _ own_w28)) (mvT hZ (hw _ own_w29)) (mvT hZ (hw _ own_w22)) (mvT hZ (hw _ own_w30)) (by decide) (backOf (W := 1) (own_rm_cod11 l Z a0 hw G1 S1 P1 G3 S3 P3 S4 S5 S6 [] r104 kr104 _ h104 n0 (Nat.le_trans Z0 E104.1) XO105 V104) hZ (hw _ own_w30) (hw _ own_w22) (by decide) (by decide)) (g := (mkF m 45 #[.val (.ref x0), .val (.ref b0), .val (.int (0 : Int32)), .val (.int (1 : Int32)), .val .null, .val (.ref r104)] [(.int (1 : Int32)), (.ref r104), (.ref x0)])) rfl (by rw [hml]; rfl) (argsL := [(.ref r104), (.int (1 : Int32))]) (rest := [(.ref x0)]) (lenOf own_pd11 rfl) rfl (by show 2 * 0 + _ ≤ _; exact Nat.le_of_eq rfl) (hb hby own_d_jdk_42_method_149_code_45) (fun _ _ => ⟨rfl, e104, (by decide : 2 + 0 ≤ _), (by decide : 3 + 0 ≤ _)⟩)
    dsimp only [Pt.U, Pt.locs, Pt.cells, Pt.slots] at X106 l106 y106 z106 st106 hQ106
    subst l106 y106 z106
    obtain ⟨rfl, M106, e106⟩ := hQ106
    have N106 := Fr.app N104 M106
    refine own_st (S' := T106.setTop (mkF m 48 #[.val (.ref x0), .val (.ref b0), .val (.int (0 : Int32)), .val (.int (1 : Int32)), .val .null, .val (.ref r104)] [(.int (0 : Int32)), (.ref x0)])) st106 ?_
    have F107 : Fld Z h104 x0 "java/lang/String" "coder" "B" (.int (0 : Int32)) := (F2.ext E104)
    have A108 : Exa Z h104 x0 "java/lang/String" := (E1.ext E104)
    obtain ⟨T109, h109, X109, e109, W109, st109⟩ := putF X106 hx hZ hown (host := "") (Or.inl (hw _ own_w31)) Via.refl e106 F107 A108 (Or.inr ⟨(hw _ own_w32), rfl, hnm⟩) (hw _ own_w7) (ty := .byte) (by decide) rfl rfl (g := (mkF m 48 #[.val (.ref x0), .val (.ref b0), .val (.int (0 : Int32)), .val (.int (1 : Int32)), .val .null, .val (.ref r104)] [(.int (0 : Int32)), (.ref x0)])) rfl rfl (hb hby own_d_jdk_42_method_149_code_48)
    have N109 := Fr.snoc X109 N106 g0
    refine own_st (S' := T109.setTop (mkF m 51 #[.val (.ref x0), .val (.ref b0), .val (.int (0 : Int32)), .val (.int (1 : Int32)), .val .null, .val (.ref r104)] [])) st109 ?_
    refine own_st (S' := T109.setTop (mkF m 54 #[.val (.ref x0), .val (.ref b0), .val (.int (0 : Int32)), .val (.int (1 : Int32)), .val .null, .val (.ref r104)] [(.ref r104), (.ref x0)])) (fun _ k => XS.aloadN X109.here hx rfl (hb hby own_d_jdk_42_method_149_code_51) rfl rfl (XS.aload X109.here hx rfl (hb hby own_d_jdk_42_method_149_code_52) rfl rfl k)) ?_
    have F110 : Fld Z h109 x0 "java/lang/String" "value" "[B" .null := ((F1.ext E104).other W109 (Or.inr (slot_ne (Or.inr (hw _ own_w34)) (Or.inr (hw _ own_w32)) (by decide) (t := (.array .byte)) (t' := .byte) (by decide) (by decide))))
    have A111 : Exa Z h109 x0 "java/lang/String" := (A108.wr W109)
    obtain ⟨T112, h112, X112, e112, W112, st112⟩ := putF X109 hx hZ hown (host := "") (Or.inl (hw _ own_w33)) Via.refl e109 F110 A111 (Or.inr ⟨(hw _ own_w34), rfl, hnm⟩) (hw _ own_w7) (ty := (.array .byte)) (by decide) rfl rfl (g := (mkF m 54 #[.val (.ref x0), .val (.ref b0), .val (.int (0 : Int32)), .val (.int (1 : Int32)), .val .null, .val (.ref r104)] [(.ref r104), (.ref x0)])) rfl rfl (hb hby own_d_jdk_42_method_149_code_54)
    have N112 := Fr.snoc X112 N109 g0
    refine own_st (S' := T112.setTop (mkF m 57 #[.val (.ref x0), .val (.ref b0), .val (.int (0 : Int32)), .val (.int (1 : Int32)), .val .null, .val (.ref r104)] [])) st112 ?_
    have hal : ∀ c ∈ [c0], ¬ c < 0 ∧ ¬ (65535 : Int32) < c := by
      intro c hc
      simp only [List.mem_cons, List.not_mem_nil, or_false] at hc
      rcases hc with rfl
      · exact hp0
    have hcod : StrChars.Road.CodA [c0] 0 (1 : Int32) [.int (StrChars.lo8 c0)] := Or.inl ⟨rfl, rfl, rfl, by
      intro c hc
      simp only [List.mem_cons, List.not_mem_nil, or_false] at hc
      rcases hc with rfl
      · exact hs104⟩
    have A113 : Exa Z h112 x0 "java/lang/String" := (A111.wr W112)
    have F114 : Fld Z h112 x0 "java/lang/String" "coder" "B" (.int (0 : Int32)) := ((F107.same W109).other W112 (Or.inr (slot_ne (Or.inr (hw _ own_w32)) (Or.inr (hw _ own_w34)) (by decide) (t := .byte) (t' := (.array .byte)) (by decide) (by decide))))
    have V115 : Arv Z h112 r104 kr104 .byte (1 : Int32) [(.int (StrChars.lo8 c0))] (.int (0 : Int32)) := ((V104.other W109 (Ne.symm (Nat.ne_of_lt (Nat.lt_of_lt_of_le E1.lt g104)))).other W112 (Ne.symm (Nat.ne_of_lt (Nat.lt_of_lt_of_le E1.lt g104))))
    refine own_ret0 X112 hx hret hlk (hb hby own_d_jdk_42_method_149_code_57) (by decide) (by decide) ?_
    rw [e112]
    exact ⟨rfl, N112, ((((Keep.refl _ _).ext E104).wr W109 (Or.inl (List.mem_of_getElem? (i := 0) rfl))).wr W112 (Or.inl (List.mem_of_getElem? (i := 0) rfl))), r104, _, _, _, _, A113, (F110.same W112), F114, V115, hcod, hal, Nat.le_of_ble_eq_true rfl⟩
  · refine own_st (S' := T104.setTop (mkF m 39 #[.val (.ref x0), .val (.ref b0), .val (.int (0 : Int32)), .val (.int (1 : Int32)), .val .null, .unset] [(.ref r104)])) st104 ?_
    refine own_st (S' := T104.setTop (mkF m 45 #[.val (.ref x0), .val (.ref b0), .val (.int (0 : Int32)), .val (.int (1 : Int32)), .val .null, .val (.ref r104)] [(.int (1 : Int32)), (.ref r104), (.ref x0)])) (fun _ k => XS.astore X104.here hx rfl (hb hby own_d_jdk_42_method_149_code_39) rfl rfl (l' := #[.val (.ref x0), .val (.ref b0), .val (.int (0 : Int32)), .val (.int (1 : Int32)), .val .null, .val (.ref r104)]) rfl (XS.aloadN X104.here hx rfl (hb hby own_d_jdk_42_method_149_code_41) rfl rfl (XS.aload X104.here hx rfl (hb hby own_d_jdk_42_method_149_code_42) rfl rfl (XS.iloadN X104.here hx rfl (hb hby own_d_jdk_42_method_149_code_44) rfl k)))) ?_
    have XO116 : Old Z n0 h104 := (XO.ext E104)
    obtain ⟨_, _, ⟨T117, L117, k117, n117⟩, -, X117, ⟨Lc117, hQ117, l117, y117, z117⟩, st117⟩ := Jvm.LawKit.callS X104 hx (y := (⟨"java/lang/StringUTF16", "coderFromArrayLen", "([BI)B"⟩ : MethodName)) hown (mvT hZ (hw _ own_w28)) (mvT hZ (hw _ own_w29)) (mvT hZ (hw _ own_w22)) (mvT hZ (hw _ own_w30)) (by decide) (backOf (W := 1) (own_rm_cod12 l Z a0 hw G1 S1 P1 G3 S3 P3 S4 S5 S6 [] r104 kr104 _ h104 n0 (Nat.le_trans Z0 E104.1) XO116 V104) hZ (hw _ own_w30) (hw _ own_w22) (by decide) (by decide)) (g := (mkF m 45 #[.val (.ref x0), .val (.ref b0), .val (.int (0 : Int32)), .val (.int (1 : Int32)), .val .null, .val (.ref r104)] [(.int (1 : Int32)), (.ref r104), (.ref x0)])) rfl (by rw [hml]; rfl) (argsL := [(.ref r104), (.int (1 : Int32))]) (rest := [(.ref x0)]) (lenOf own_pd11 rfl) rfl (by show 2 * 0 + _ ≤ _; exact Nat.le_of_eq rfl) (hb hby own_d_jdk_42_method_149_code_45) (fun _ _ => ⟨rfl, e104, (by decide : 2 + 0 ≤ _), (by decide : 3 + 0 ≤ _)⟩)
    dsimp only [Pt.U, Pt.locs, Pt.cells, Pt.slots] at X117 l117 y117 z117 st117 hQ117
    subst l117 y117 z117
    obtain ⟨rfl, M117, e117⟩ := hQ117
    have N117 := Fr.app N104 M117
    refine own_st (S' := T117.setTop (mkF m 48 #[.val (.ref x0), .val (.ref b0), .val (.int (0 : Int32)), .val (.int (1 : Int32)), .val .null, .val (.ref r104)] [(.int (1 : Int32)), (.ref x0)])) st117 ?_
    have F118 : Fld Z h104 x0 "java/lang/String" "coder" "B" (.int (0 : Int32)) := (F2.ext E104)
    have A119 : Exa Z h104 x0 "java/lang/String" := (E1.ext E104)
    obtain ⟨T120, h120, X120, e120, W120, st120⟩ := putF X117 hx hZ hown (host := "") (Or.inl (hw _ own_w31)) Via.refl e117 F118 A119 (Or.inr ⟨(hw _ own_w32), rfl, hnm⟩) (hw _ own_w7) (ty := .byte) (by decide) rfl rfl (g := (mkF m 48 #[.val (.ref x0), .val (.ref b0), .val (.int (0 : Int32)), .val (.int (1 : Int32)), .val .null, .val (.ref r104)] [(.int (1 : Int32)), (.ref x0)])) rfl rfl (hb hby own_d_jdk_42_method_149_code_48)
    have N120 := Fr.snoc X120 N117 g0
    refine own_st (S' := T120.setTop (mkF m 51 #[.val (.ref x0), .val (.ref b0), .val (.int (0 : Int32)), .val (.int (1 : Int32)), .val .null, .val (.ref r104)] [])) st120 ?_
    refine own_st (S' := T120.setTop (mkF m 54 #[.val (.ref x0), .val (.ref b0), .val (.int (0 : Int32)), .val (.int (1 : Int32)), .val .null, .val (.ref r104)] [(.ref r104), (.ref x0)])) (fun _ k => XS.aloadN X120.here hx rfl (hb hby own_d_jdk_42_method_149_code_51) rfl rfl (XS.aload X120.here hx rfl (hb hby own_d_jdk_42_method_149_code_52) rfl rfl k)) ?_
    have F121 : Fld Z h120 x0 "java/lang/String" "value" "[B" .null := ((F1.ext E104).other W120 (Or.inr (slot_ne (Or.inr (hw _ own_w34)) (Or.inr (hw _ own_w32)) (by decide) (t := (.array .byte)) (t' := .byte) (by decide) (by decide))))
    have A122 : Exa Z h120 x0 "java/lang/String" := (A119.wr W120)
    obtain ⟨T123, h123, X123, e123, W123, st123⟩ := putF X120 hx hZ hown (host := "") (Or.inl (hw _ own_w33)) Via.refl e120 F121 A122 (Or.inr ⟨(hw _ own_w34), rfl, hnm⟩) (hw _ own_w7) (ty := (.array .byte)) (by decide) rfl rfl (g := (mkF m 54 #[.val (.ref x0), .val (.ref b0), .val (.int (0 : Int32)), .val (.int (1 : Int32)), .val .null, .val (.ref r104)] [(.ref r104), (.ref x0)])) rfl rfl (hb hby own_d_jdk_42_method_149_code_54)
    have N123 := Fr.snoc X123 N120 g0
    refine own_st (S' := T123.setTop (mkF m 57 #[.val (.ref x0), .val (.ref b0), .val (.int (0 : Int32)), .val (.int (1 : Int32)), .val .null, .val (.ref r104)] [])) st123 ?_
    have hal : ∀ c ∈ [c0], ¬ c < 0 ∧ ¬ (65535 : Int32) < c := by
      intro c hc
      simp only [List.mem_cons, List.not_mem_nil, or_false] at hc
      rcases hc with rfl
      · exact hp0
    have hcod : StrChars.Road.CodA [c0] 1 (2 : Int32) [.int (StrChars.lo8 c0), .int (StrChars.hi8 c0)] := Or.inr ⟨rfl, rfl, rfl, by
      exact ⟨_, List.mem_of_getElem? (i := 0) rfl, hs104⟩⟩
    have A124 : Exa Z h123 x0 "java/lang/String" := (A122.wr W123)
    have F125 : Fld Z h123 x0 "java/lang/String" "coder" "B" (.int (1 : Int32)) := ((F118.same W120).other W123 (Or.inr (slot_ne (Or.inr (hw _ own_w32)) (Or.inr (hw _ own_w34)) (by decide) (t := .byte) (t' := (.array .byte)) (by decide) (by decide))))
    have V126 : Arv Z h123 r104 kr104 .byte (2 : Int32) [(.int (StrChars.lo8 c0)), (.int (StrChars.hi8 c0))] (.int (0 : Int32)) := ((V104.other W120 (Ne.symm (Nat.ne_of_lt (Nat.lt_of_lt_of_le E1.lt g104)))).other W123 (Ne.symm (Nat.ne_of_lt (Nat.lt_of_lt_of_le E1.lt g104))))
    refine own_ret0 X123 hx hret hlk (hb hby own_d_jdk_42_method_149_code_57) (by decide) (by decide) ?_
    rw [e123]
    exact ⟨rfl, N123, ((((Keep.refl _ _).ext E104).wr W120 (Or.inl (List.mem_of_getElem? (i := 0) rfl))).wr W123 (Or.inl (List.mem_of_getElem? (i := 0) rfl))), r104, _, _, _, _, A124, (F121.same W123), F125, V126, hcod, hal, Nat.le_of_ble_eq_true rfl⟩
def own_Q_in11 (Z : State) (x0 : Addr) (c0 : Int32) (h0 : Heap) (n0 : Nat) (v : Option Value) (h : Heap) (L : List Loc) : Prop := v = none ∧ Fr n0 L ∧ Keep h0 h [x0] ∧ own_Str Z h x0 [c0]
theorem own_ef_in11 (m : MethodId) (x0 : Addr) (b0 : Addr) : entryFrame m #[(.ref x0), (.ref b0)] 2 = mkF m 0 #[.val (.ref x0), .val (.ref b0)] [] := by first | (simp [entryFrame, mkF, argsToLocals, Value.category, maxLocals]; done) | rfl
set_option maxRecDepth 65536 in
set_option maxHeartbeats 40000000 in
theorem own_rm_in11 (l : Launch) (Z : State) (a0 : Array Value) (hw : ∀ d ∈ tables_1, d.before a0 Z = true) (G1 : Int32) (S1 : Sta Z Z.heap "java/lang/String" "COMPACT_STRINGS" "Z" (.int G1)) (P1 : ¬ G1 = 0) (G3 : Value) (S3 : Sta Z Z.heap "jdk/internal/util/Preconditions" "SIOOBE_FORMATTER" "Ljava/util/function/BiFunction;" G3) (P3 : G3.isRef = true) (S4 : Sta Z Z.heap "java/lang/StringUTF16" "$assertionsDisabled" "Z" (.int (1 : Int32))) (S5 : Sta Z Z.heap "java/lang/StringUTF16" "HI_BYTE_SHIFT" "I" (.int (0 : Int32))) (S6 : Sta Z Z.heap "java/lang/StringUTF16" "LO_BYTE_SHIFT" "I" (.int (8 : Int32))) (ws : List Jvm.Cond) (x0 b0 : Addr) (kc : ClassId) (c0 : Int32) (h0 : Heap) (n0 : Nat) (Z0 : n0 ≤ h0.size) (XO : Old Z n0 h0) (g0 : n0 ≤ x0) (E1 : Exa Z h0 x0 "java/lang/String") (F1 : Fld Z h0 x0 "java/lang/String" "value" "[B" .null) (F2 : Fld Z h0 x0 "java/lang/String" "coder" "B" (.int (0 : Int32))) (V1 : Arv Z h0 b0 kc .char (1 : Int32) [.int c0] (.int (0 : Int32))) (hp0 : ¬ c0 < 0 ∧ ¬ (65535 : Int32) < c0) :
    own_Met l Z h0 (⟨"java/lang/String", "<init>", "([C)V"⟩ : MethodName) jdk_42_method_3_code 2 (none) ws { frames := 5, cells := 2, slots := 3, locals := 74 } #[(.ref x0), (.ref b0)] (own_Q_in11 Z x0 c0 h0 n0) := by
  refine own_enter (plainFor_of_name own_pn1) (fun p e s m below meth c s₁ hx hby hlk hml hown hnm hret hZ X0 e0 => ?_)
  have N0 := Fr.nil n0
  refine own_st (S' := s₁.setTop (mkF m 0 #[.val (.ref x0), .val (.ref b0)] [])) (fun _ k => castTop (own_ef_in11 m x0 b0) k) ?_
  refine own_st (S' := s₁.setTop (mkF m 4 #[.val (.ref x0), .val (.ref b0)] [(.ref b0), (.int (0 : Int32)), (.ref b0), (.ref x0)])) (fun _ k => XS.aloadN X0.here hx rfl (hb hby own_d_jdk_42_method_3_code_0) rfl rfl (XS.aloadN X0.here hx rfl (hb hby own_d_jdk_42_method_3_code_1) rfl rfl (XS.iconst X0.here hx rfl (hb hby own_d_jdk_42_method_3_code_2) (XS.aloadN X0.here hx rfl (hb hby own_d_jdk_42_method_3_code_3) rfl rfl k)))) ?_
  obtain ⟨c101, A101, q101, S101, M101, H101, U101⟩ := id V1
  refine own_st (S' := s₁.setTop (mkF m 5 #[.val (.ref x0), .val (.ref b0)] [(.int (1 : Int32)), (.int (0 : Int32)), (.ref b0), (.ref x0)])) (len_of S101 M101 ▸ X0.arraylength hx (by rw [e0]; exact A101.1) (State.isArrayOf_alike hZ.alike A101.2.1) (g := (mkF m 4 #[.val (.ref x0), .val (.ref b0)] [(.ref b0), (.int (0 : Int32)), (.ref b0), (.ref x0)])) rfl rfl (hb hby own_d_jdk_42_method_3_code_4)) ?_
  refine own_st (S' := s₁.setTop (mkF m 6 #[.val (.ref x0), .val (.ref b0)] [.null, (.int (1 : Int32)), (.int (0 : Int32)), (.ref b0), (.ref x0)])) (fun _ k => XS.aconstNull X0.here hx rfl (hb hby own_d_jdk_42_method_3_code_5) k) ?_
  obtain ⟨_, _, ⟨T102, L102, k102, n102⟩, -, X102, ⟨Lc102, hQ102, l102, y102, z102⟩, st102⟩ := X0.specialBack hx (y := (⟨"java/lang/String", "<init>", "([CIILjava/lang/Void;)V"⟩ : MethodName)) rfl hown (mvT hZ (hw _ own_w12)) (mvT hZ (hw _ own_w13)) (mvT hZ (hw _ own_w15)) (by decide) (backOf (W := 0) (own_rm_in41 l Z a0 hw G1 S1 P1 G3 S3 P3 S4 S5 S6 [] x0 b0 kc c0 h0 n0 (Nat.le_trans Z0 (Nat.le_refl _)) XO g0 E1 F1 F2 V1 hp0) hZ (hw _ own_w15) (hw _ own_w8) (by decide) (by decide)) (g := (mkF m 6 #[.val (.ref x0), .val (.ref b0)] [.null, (.int (1 : Int32)), (.int (0 : Int32)), (.ref b0), (.ref x0)])) rfl (by rw [hml]; rfl) (Steps.refl _) (a := x0) (argsL := [(.ref b0), (.int (0 : Int32)), (.int (1 : Int32)), .null]) (rest := []) (lenOf own_pd12 rfl) rfl (by show 2 * 0 + _ ≤ _; exact Nat.le_of_eq rfl) (hb hby own_d_jdk_42_method_3_code_6) (fun _ _ => ⟨rfl, e0, (by decide : 0 + 2 ≤ _), (by decide : 0 + 3 ≤ _)⟩)
  dsimp only [Pt.U, Pt.locs, Pt.cells, Pt.slots] at X102 l102 y102 z102 st102 hQ102
  subst l102 y102 z102
  obtain ⟨rfl, M102, K102, Y102⟩ := hQ102
  have N102 := Fr.app N0 M102
  obtain ⟨h102, e102⟩ : ∃ z, T102.heap = z := ⟨_, rfl⟩
  rw [e102] at K102 Y102
  refine own_tr (S' := T102.setTop (mkF m 9 #[.val (.ref x0), .val (.ref b0)] [])) st102 ?_
  refine own_ret0 X102 hx hret hlk (hb hby own_d_jdk_42_method_3_code_9) (by decide) (by decide) ?_
  rw [e102]
  exact ⟨rfl, N102, K102, Y102⟩
def own_Q_make1 (Z : State) (c0 c1 c2 c3 : Int32) (h0 : Heap) (n0 : Nat) (v : Option Value) (h : Heap) (L : List Loc) : Prop := ∃ r, v = some (.ref r) ∧ Fr n0 L ∧ Ext h0 h ∧ h0.size ≤ r ∧ own_Str Z h r [c0]
theorem own_ef_make1 (m : MethodId) (c0 : Int32) (c1 : Int32) (c2 : Int32) (c3 : Int32) : entryFrame m #[(.int (1 : Int32)), (.int c0), (.int c1), (.int c2), (.int c3)] 6 = mkF m 0 #[.val (.int (1 : Int32)), .val (.int c0), .val (.int c1), .val (.int c2), .val (.int c3), .unset] [] := by first | (simp [entryFrame, mkF, argsToLocals, Value.category, maxLocals]; done) | rfl
set_option maxRecDepth 65536 in
set_option maxHeartbeats 40000000 in
theorem own_rm_make1 (l : Launch) (Z : State) (a0 : Array Value) (hw : ∀ d ∈ tables_1, d.before a0 Z = true) (G1 : Int32) (S1 : Sta Z Z.heap "java/lang/String" "COMPACT_STRINGS" "Z" (.int G1)) (P1 : ¬ G1 = 0) (G3 : Value) (S3 : Sta Z Z.heap "jdk/internal/util/Preconditions" "SIOOBE_FORMATTER" "Ljava/util/function/BiFunction;" G3) (P3 : G3.isRef = true) (S4 : Sta Z Z.heap "java/lang/StringUTF16" "$assertionsDisabled" "Z" (.int (1 : Int32))) (S5 : Sta Z Z.heap "java/lang/StringUTF16" "HI_BYTE_SHIFT" "I" (.int (0 : Int32))) (S6 : Sta Z Z.heap "java/lang/StringUTF16" "LO_BYTE_SHIFT" "I" (.int (8 : Int32))) (ws : List Jvm.Cond) (c0 c1 c2 c3 : Int32) (h0 : Heap) (n0 : Nat) (Z0 : n0 ≤ h0.size) (XO : Old Z n0 h0) (hp0 : ¬ c0 < 0 ∧ ¬ (65535 : Int32) < c0) (hn0 : nar .char c0 = c0) (hp1 : ¬ c1 < 0 ∧ ¬ (65535 : Int32) < c1) (hn1 : nar .char c1 = c1) (hp2 : ¬ c2 < 0 ∧ ¬ (65535 : Int32) < c2) (hn2 : nar .char c2 = c2) (hp3 : ¬ c3 < 0 ∧ ¬ (65535 : Int32) < c3) (hn3 : nar .char c3 = c3) :
    own_Met l Z h0 (⟨"com/example/sault/sault/ArgumentsLockNamePinLaw", "make", "(ICCCC)Ljava/lang/String;"⟩ : MethodName) method_3_code 6 (some (.object "java/lang/String")) ws { frames := 6, cells := 4, slots := 8, locals := 88 } #[(.int (1 : Int32)), (.int c0), (.int c1), (.int c2), (.int c3)] (own_Q_make1 Z c0 c1 c2 c3 h0 n0) := by
  refine own_enter (plainFor_of_name own_pn3) (fun p e s m below meth c s₁ hx hby hlk hml hown hnm hret hZ X0 e0 => ?_)
  have N0 := Fr.nil n0
  refine own_st (S' := s₁.setTop (mkF m 0 #[.val (.int (1 : Int32)), .val (.int c0), .val (.int c1), .val (.int c2), .val (.int c3), .unset] [])) (fun _ k => castTop (own_ef_make1 m c0 c1 c2 c3) k) ?_
  refine own_st (S' := s₁.setTop (mkF m 6 #[.val (.int (1 : Int32)), .val (.int c0), .val (.int c1), .val (.int c2), .val (.int c3), .unset] [(.int (1 : Int32))])) (fun _ k => XS.iloadN X0.here hx rfl (hb hby own_d_method_3_code_0) rfl (XS.iconst X0.here hx rfl (hb hby own_d_method_3_code_1) (XS.icmpNo X0.here hx rfl (hb hby own_d_method_3_code_2) rfl (by decide) (XS.iconst X0.here hx rfl (hb hby own_d_method_3_code_5) k)))) ?_
  obtain ⟨T101, h101, k101, X101, e101, E101, A101, AE101, st101⟩ := newPE X0 hx hZ (aty := .char) (hw _ own_w5) e0 (g := (mkF m 6 #[.val (.int (1 : Int32)), .val (.int c0), .val (.int c1), .val (.int c2), .val (.int c3), .unset] [(.int (1 : Int32))])) rfl (hb hby own_d_method_3_code_6) rfl (by decide) (cap := 1) (by decide) (by decide) (by decide) (by decide) (ad := "[C") (by decide)
  obtain ⟨b101, g101⟩ : ∃ z, z = h0.size := ⟨_, rfl⟩
  rw [← g101] at A101 AE101 st101
  have V101 : Arv Z h101 b101 k101 .char (1 : Int32) [(.int (0 : Int32))] (.int (0 : Int32)) := (Arv.new A101 (by decide)).pad (pad_rep [] (.int (0 : Int32)) 1)
  refine own_st (S' := T101.setTop (mkF m 8 #[.val (.int (1 : Int32)), .val (.int c0), .val (.int c1), .val (.int c2), .val (.int c3), .unset] [(.ref b101)])) st101 ?_
  refine own_st (S' := T101.setTop (mkF m 14 #[.val (.int (1 : Int32)), .val (.int c0), .val (.int c1), .val (.int c2), .val (.int c3), .val (.ref b101)] [(.int c0), (.int (0 : Int32)), (.ref b101)])) (fun _ k => XS.astore X101.here hx rfl (hb hby own_d_method_3_code_8) rfl rfl (l' := #[.val (.int (1 : Int32)), .val (.int c0), .val (.int c1), .val (.int c2), .val (.int c3), .val (.ref b101)]) rfl (XS.aload X101.here hx rfl (hb hby own_d_method_3_code_10) rfl rfl (XS.iconst X101.here hx rfl (hb hby own_d_method_3_code_12) (XS.iloadN X101.here hx rfl (hb hby own_d_method_3_code_13) rfl k)))) ?_
  obtain ⟨c102, A102, q102, S102, M102, H102, U102⟩ := id V101
  obtain ⟨T102, h102, X102, e102, W102, st102⟩ := stC X101 hx hZ e101 A102 (j := (0 : Int32)) (inb_of S102 ⟨by decide, by decide⟩) (g := (mkF m 14 #[.val (.int (1 : Int32)), .val (.int c0), .val (.int c1), .val (.int c2), .val (.int c3), .val (.ref b101)] [(.int c0), (.int (0 : Int32)), (.ref b101)])) rfl rfl (hb hby own_d_method_3_code_14)
  have N102 := Fr.snoc X102 N0 (Nat.le_trans Z0 (Nat.le_of_eq g101.symm))
  have V102 : Arv Z h102 b101 k101 .char (1 : Int32) [(.int (nar .char c0))] (.int (0 : Int32)) := Arv.set A102 q102 S102 M102 H102 U102 (fits_nar_char _) W102 0 rfl (Nat.le_of_ble_eq_true rfl)
  refine own_st (S' := T102.setTop (mkF m 15 #[.val (.int (1 : Int32)), .val (.int c0), .val (.int c1), .val (.int c2), .val (.int c3), .val (.ref b101)] [])) st102 ?_
  obtain ⟨T103, h103, X103, e103, E103, A103, D103, -, st103⟩ := newO X102 hx hZ hown (hw _ own_w6) (hw _ own_w7) (hw _ own_w8) e102 (g := (mkF m 15 #[.val (.int (1 : Int32)), .val (.int c0), .val (.int c1), .val (.int c2), .val (.int c3), .val (.ref b101)] [])) rfl (hb hby own_d_method_3_code_15) (by decide) (by decide)
  obtain ⟨b103, g103⟩ : ∃ z, z = h102.size := ⟨_, rfl⟩
  rw [← g103] at A103 D103 st103
  refine own_st (S' := T103.setTop (mkF m 18 #[.val (.int (1 : Int32)), .val (.int c0), .val (.int c1), .val (.int c2), .val (.int c3), .val (.ref b101)] [(.ref b103)])) st103 ?_
  refine own_st (S' := T103.setTop (mkF m 21 #[.val (.int (1 : Int32)), .val (.int c0), .val (.int c1), .val (.int c2), .val (.int c3), .val (.ref b101)] [(.ref b101), (.ref b103), (.ref b103)])) (fun _ k => XS.dup X103.here hx rfl (hb hby own_d_method_3_code_18) rfl rfl (XS.aload X103.here hx rfl (hb hby own_d_method_3_code_19) rfl rfl k)) ?_
  have V104 : Arv Z h103 b101 k101 .char (1 : Int32) [(.int (nar .char c0))] (.int (0 : Int32)) := (V102.ext E103)
  have VC : Arv Z h103 b101 k101 .char (1 : Int32) [.int c0] (.int (0 : Int32)) := by have q := V104; rw [hn0] at q; exact q
  have XE105 : Ext h0 h103 := (own_xt (own_xw E101 W102 (Nat.le_of_eq g101.symm)) E103)
  have XO106 : Old Z n0 h103 := (XO.ext XE105)
  obtain ⟨_, _, ⟨T107, L107, k107, n107⟩, -, X107, ⟨Lc107, hQ107, l107, y107, z107⟩, st107⟩ := X103.specialBack hx (y := (⟨"java/lang/String", "<init>", "([C)V"⟩ : MethodName)) rfl hown (mvT hZ (hw _ own_w9)) (mvT hZ (hw _ own_w10)) (mvT hZ (hw _ own_w11)) (by decide) (backOf (W := 1) (own_rm_in11 l Z a0 hw G1 S1 P1 G3 S3 P3 S4 S5 S6 [] b103 b101 k101 c0 h103 n0 (Nat.le_trans Z0 (Nat.le_trans (Nat.le_trans E101.1 (Nat.le_of_eq W102.size.symm)) E103.1)) XO106 (Nat.le_trans Z0 (Nat.le_trans (Nat.le_trans E101.1 (Nat.le_of_eq W102.size.symm)) (Nat.le_of_eq g103.symm))) A103 (D103 (Or.inr (hw _ own_w34)) (ty := (.array .byte)) (by decide)) (D103 (Or.inr (hw _ own_w32)) (ty := .byte) (by decide)) VC hp0) hZ (hw _ own_w11) (hw _ own_w8) (by decide) (by decide)) (g := (mkF m 21 #[.val (.int (1 : Int32)), .val (.int c0), .val (.int c1), .val (.int c2), .val (.int c3), .val (.ref b101)] [(.ref b101), (.ref b103), (.ref b103)])) rfl (by rw [hml]; rfl) (Steps.refl _) (a := b103) (argsL := [(.ref b101)]) (rest := [(.ref b103)]) (lenOf own_pd13 rfl) rfl (by show 2 * 0 + _ ≤ _; exact Nat.le_of_eq rfl) (hb hby own_d_method_3_code_21) (fun _ _ => ⟨rfl, e103, (by decide : 2 + 2 ≤ _), (by decide : 5 + 3 ≤ _)⟩)
  dsimp only [Pt.U, Pt.locs, Pt.cells, Pt.slots] at X107 l107 y107 z107 st107 hQ107
  subst l107 y107 z107
  obtain ⟨rfl, M107, K107, Y107⟩ := hQ107
  have N107 := Fr.app N102 M107
  obtain ⟨h107, e107⟩ : ∃ z, T107.heap = z := ⟨_, rfl⟩
  rw [e107] at K107 Y107
  refine own_tr (S' := T107.setTop (mkF m 24 #[.val (.int (1 : Int32)), .val (.int c0), .val (.int c1), .val (.int c2), .val (.int c3), .val (.ref b101)] [(.ref b103)])) st107 ?_
  have XE108 : Ext h0 h107 := (own_xk XE105 K107 (allS (Nat.le_trans (Nat.le_trans E101.1 (Nat.le_of_eq W102.size.symm)) (Nat.le_of_eq g103.symm)) all0))
  refine own_ret X107 hx hret hlk rfl (Or.inr (Or.inr (Or.inr (Or.inr ⟨rfl, rfl, rfl⟩)))) (hb hby own_d_method_3_code_24) (by decide) (by decide) ?_
  rw [e107]
  exact ⟨b103, rfl, N107, XE108, (Nat.le_trans (Nat.le_trans E101.1 (Nat.le_of_eq W102.size.symm)) (Nat.le_of_eq g103.symm)), Y107⟩
def own_Q_nbl2 (Z : State) (h0 : Heap) (n0 : Nat) (v : Option Value) (h : Heap) (L : List Loc) : Prop := v = some (.int 4) ∧ Fr n0 L ∧ h = h0
theorem own_ef_nbl2 (m : MethodId) : entryFrame m #[(.int (2 : Int32))] 1 = mkF m 0 #[.val (.int (2 : Int32))] [] := by first | (simp [entryFrame, mkF, argsToLocals, Value.category, maxLocals]; done) | rfl
set_option maxRecDepth 65536 in
set_option maxHeartbeats 40000000 in
theorem own_rm_nbl2 (l : Launch) (Z : State) (a0 : Array Value) (hw : ∀ d ∈ tables_1, d.before a0 Z = true) (G1 : Int32) (S1 : Sta Z Z.heap "java/lang/String" "COMPACT_STRINGS" "Z" (.int G1)) (P1 : ¬ G1 = 0) (G3 : Value) (S3 : Sta Z Z.heap "jdk/internal/util/Preconditions" "SIOOBE_FORMATTER" "Ljava/util/function/BiFunction;" G3) (P3 : G3.isRef = true) (S4 : Sta Z Z.heap "java/lang/StringUTF16" "$assertionsDisabled" "Z" (.int (1 : Int32))) (S5 : Sta Z Z.heap "java/lang/StringUTF16" "HI_BYTE_SHIFT" "I" (.int (0 : Int32))) (S6 : Sta Z Z.heap "java/lang/StringUTF16" "LO_BYTE_SHIFT" "I" (.int (8 : Int32))) (ws : List Jvm.Cond) (h0 : Heap) (n0 : Nat) (Z0 : n0 ≤ h0.size) (XO : Old Z n0 h0) :
    own_Met l Z h0 (⟨"java/lang/StringUTF16", "newBytesLength", "(I)I"⟩ : MethodName) jdk_52_method_3_code 1 (some .int) ws { frames := 0, cells := 0, slots := 0, locals := 0 } #[(.int (2 : Int32))] (own_Q_nbl2 Z h0 n0) := by
  refine own_enter (plainFor_of_name own_pn2) (fun p e s m below meth c s₁ hx hby hlk hml hown hnm hret hZ X0 e0 => ?_)
  have N0 := Fr.nil n0
  refine own_st (S' := s₁.setTop (mkF m 0 #[.val (.int (2 : Int32))] [])) (fun _ k => castTop (own_ef_nbl2 m) k) ?_
  refine own_st (S' := s₁.setTop (mkF m 13 #[.val (.int (2 : Int32))] [(.int (2 : Int32))])) (fun _ k => XS.iloadN X0.here hx rfl (hb hby own_d_jdk_52_method_3_code_0) rfl (XS.ifYes X0.here hx rfl (pc0 := 1) (pc' := 12) rfl (hb hby own_d_jdk_52_method_3_code_1) rfl (by decide) (by decide) (by decide) (XS.iloadN X0.here hx rfl (hb hby own_d_jdk_52_method_3_code_12) rfl k))) ?_
  refine own_st (S' := s₁.setTop (mkF m 15 #[.val (.int (2 : Int32))] [(.int (1073741823 : Int32)), (.int (2 : Int32))])) (X0.ldcInt hx hown (mvT hZ (hw _ own_w85)) (g := (mkF m 13 #[.val (.int (2 : Int32))] [(.int (2 : Int32))])) rfl (hb hby own_d_jdk_52_method_3_code_13)) ?_
  refine own_st (S' := s₁.setTop (mkF m 58 #[.val (.int (2 : Int32))] [(.int ((2 : Int32) <<< ((1 : Int32) &&& 31)))])) (fun _ k => XS.icmpYes X0.here hx rfl (pc0 := 15) (pc' := 55) rfl (hb hby own_d_jdk_52_method_3_code_15) rfl (by decide) (by decide) (by decide) (XS.iloadN X0.here hx rfl (hb hby own_d_jdk_52_method_3_code_55) rfl (XS.iconst X0.here hx rfl (hb hby own_d_jdk_52_method_3_code_56) (XS.ishl X0.here hx rfl (hb hby own_d_jdk_52_method_3_code_57) rfl k)))) ?_
  rw [show ((2 : Int32) <<< ((1 : Int32) &&& 31)) = (4 : Int32) from by decide]
  refine own_ret X0 hx hret hlk rfl (Or.inl ⟨rfl, (by simp), _, rfl⟩) (hb hby own_d_jdk_52_method_3_code_58) (by decide) (by decide) ?_
  rw [e0]
  exact ⟨rfl, N0, rfl⟩
def own_Q_nbf2 (Z : State) (h0 : Heap) (n0 : Nat) (v : Option Value) (h : Heap) (L : List Loc) : Prop := ∃ (r : Addr) (k : ClassId), v = some (.ref r) ∧ Fr n0 L ∧ Ext h0 h ∧ h0.size ≤ r ∧ Arv Z h r k .byte (4 : Int32) [(.int (0 : Int32)), (.int (0 : Int32)), (.int (0 : Int32)), (.int (0 : Int32))] (.int (0 : Int32))
theorem own_ef_nbf2 (m : MethodId) : entryFrame m #[(.int (2 : Int32))] 1 = mkF m 0 #[.val (.int (2 : Int32))] [] := by first | (simp [entryFrame, mkF, argsToLocals, Value.category, maxLocals]; done) | rfl
set_option maxRecDepth 65536 in
set_option maxHeartbeats 40000000 in
theorem own_rm_nbf2 (l : Launch) (Z : State) (a0 : Array Value) (hw : ∀ d ∈ tables_1, d.before a0 Z = true) (G1 : Int32) (S1 : Sta Z Z.heap "java/lang/String" "COMPACT_STRINGS" "Z" (.int G1)) (P1 : ¬ G1 = 0) (G3 : Value) (S3 : Sta Z Z.heap "jdk/internal/util/Preconditions" "SIOOBE_FORMATTER" "Ljava/util/function/BiFunction;" G3) (P3 : G3.isRef = true) (S4 : Sta Z Z.heap "java/lang/StringUTF16" "$assertionsDisabled" "Z" (.int (1 : Int32))) (S5 : Sta Z Z.heap "java/lang/StringUTF16" "HI_BYTE_SHIFT" "I" (.int (0 : Int32))) (S6 : Sta Z Z.heap "java/lang/StringUTF16" "LO_BYTE_SHIFT" "I" (.int (8 : Int32))) (ws : List Jvm.Cond) (h0 : Heap) (n0 : Nat) (Z0 : n0 ≤ h0.size) (XO : Old Z n0 h0) :
    own_Met l Z h0 (⟨"java/lang/StringUTF16", "newBytesFor", "(I)[B"⟩ : MethodName) jdk_52_method_2_code 1 (some (.array .byte)) ws { frames := 1, cells := 1, slots := 4, locals := 12 } #[(.int (2 : Int32))] (own_Q_nbf2 Z h0 n0) := by
  refine own_enter (plainFor_of_name own_pn2) (fun p e s m below meth c s₁ hx hby hlk hml hown hnm hret hZ X0 e0 => ?_)
  have N0 := Fr.nil n0
  refine own_st (S' := s₁.setTop (mkF m 0 #[.val (.int (2 : Int32))] [])) (fun _ k => castTop (own_ef_nbf2 m) k) ?_
  refine own_st (S' := s₁.setTop (mkF m 1 #[.val (.int (2 : Int32))] [(.int (2 : Int32))])) (fun _ k => XS.iloadN X0.here hx rfl (hb hby own_d_jdk_52_method_2_code_0) rfl k) ?_
  obtain ⟨_, _, ⟨T101, L101, k101, n101⟩, -, X101, ⟨Lc101, hQ101, l101, y101, z101⟩, st101⟩ := Jvm.LawKit.callS X0 hx (y := (⟨"java/lang/StringUTF16", "newBytesLength", "(I)I"⟩ : MethodName)) hown (mvT hZ (hw _ own_w82)) (mvT hZ (hw _ own_w83)) (mvT hZ (hw _ own_w22)) (mvT hZ (hw _ own_w84)) (by decide) (backOf (W := 0) (own_rm_nbl2 l Z a0 hw G1 S1 P1 G3 S3 P3 S4 S5 S6 []  h0 n0 (Nat.le_trans Z0 (Nat.le_refl _)) XO ) hZ (hw _ own_w84) (hw _ own_w22) (by decide) (by decide)) (g := (mkF m 1 #[.val (.int (2 : Int32))] [(.int (2 : Int32))])) rfl (by rw [hml]; rfl) (argsL := [(.int (2 : Int32))]) (rest := []) (lenOf own_pd6 rfl) rfl (by show 2 * 0 + _ ≤ _; exact Nat.le_of_eq rfl) (hb hby own_d_jdk_52_method_2_code_1) (fun _ _ => ⟨rfl, e0, (by decide : 0 + 0 ≤ _), (by decide : 0 + 0 ≤ _)⟩)
  dsimp only [Pt.U, Pt.locs, Pt.cells, Pt.slots] at X101 l101 y101 z101 st101 hQ101
  subst l101 y101 z101
  obtain ⟨rfl, M101, e101⟩ := hQ101
  have N101 := Fr.app N0 M101
  refine own_st (S' := T101.setTop (mkF m 4 #[.val (.int (2 : Int32))] [(.int (4 : Int32))])) st101 ?_
  obtain ⟨T102, h102, k102, X102, e102, E102, A102, AE102, st102⟩ := newPE X101 hx hZ (aty := .byte) (hw _ own_w24) e101 (g := (mkF m 4 #[.val (.int (2 : Int32))] [(.int (4 : Int32))])) rfl (hb hby own_d_jdk_52_method_2_code_4) rfl (by decide) (cap := 4) (by decide) (by decide) (by decide) (by decide) (ad := "[B") (by decide)
  obtain ⟨b102, g102⟩ : ∃ z, z = h0.size := ⟨_, rfl⟩
  rw [← g102] at A102 AE102 st102
  have V102 : Arv Z h102 b102 k102 .byte (4 : Int32) [(.int (0 : Int32)), (.int (0 : Int32)), (.int (0 : Int32)), (.int (0 : Int32))] (.int (0 : Int32)) := (Arv.new A102 (by decide)).pad (pad_rep [] (.int (0 : Int32)) 4)
  refine own_st (S' := T102.setTop (mkF m 6 #[.val (.int (2 : Int32))] [(.ref b102)])) st102 ?_
  refine own_ret X102 hx hret hlk rfl (Or.inr (Or.inr (Or.inr (Or.inr ⟨rfl, rfl, rfl⟩)))) (hb hby own_d_jdk_52_method_2_code_6) (by decide) (by decide) ?_
  rw [e102]
  exact ⟨b102, k102, rfl, N101, E102, (Nat.le_of_eq g102.symm), V102⟩
def own_Q_tob2 (Z : State) (c0 c1 : Int32) (h0 : Heap) (n0 : Nat) (v : Option Value) (h : Heap) (L : List Loc) : Prop := ∃ (r : Addr) (k : ClassId), v = some (.ref r) ∧ Fr n0 L ∧ Ext h0 h ∧ h0.size ≤ r ∧ Arv Z h r k .byte (4 : Int32) [.int (StrChars.lo8 c0), .int (StrChars.hi8 c0), .int (StrChars.lo8 c1), .int (StrChars.hi8 c1)] (.int (0 : Int32))
theorem own_ef_tob2 (m : MethodId) (b0 : Addr) : entryFrame m #[(.ref b0), (.int (0 : Int32)), (.int (2 : Int32))] 5 = mkF m 0 #[.val (.ref b0), .val (.int (0 : Int32)), .val (.int (2 : Int32)), .unset, .unset] [] := by first | (simp [entryFrame, mkF, argsToLocals, Value.category, maxLocals]; done) | rfl
set_option maxRecDepth 65536 in
set_option maxHeartbeats 40000000 in
theorem own_rm_tob2 (l : Launch) (Z : State) (a0 : Array Value) (hw : ∀ d ∈ tables_1, d.before a0 Z = true) (G1 : Int32) (S1 : Sta Z Z.heap "java/lang/String" "COMPACT_STRINGS" "Z" (.int G1)) (P1 : ¬ G1 = 0) (G3 : Value) (S3 : Sta Z Z.heap "jdk/internal/util/Preconditions" "SIOOBE_FORMATTER" "Ljava/util/function/BiFunction;" G3) (P3 : G3.isRef = true) (S4 : Sta Z Z.heap "java/lang/StringUTF16" "$assertionsDisabled" "Z" (.int (1 : Int32))) (S5 : Sta Z Z.heap "java/lang/StringUTF16" "HI_BYTE_SHIFT" "I" (.int (0 : Int32))) (S6 : Sta Z Z.heap "java/lang/StringUTF16" "LO_BYTE_SHIFT" "I" (.int (8 : Int32))) (ws : List Jvm.Cond) (b0 : Addr) (kc : ClassId) (c0 c1 : Int32) (h0 : Heap) (n0 : Nat) (Z0 : n0 ≤ h0.size) (XO : Old Z n0 h0) (V1 : Arv Z h0 b0 kc .char (2 : Int32) [.int c0, .int c1] (.int (0 : Int32))) :
    own_Met l Z h0 (⟨"java/lang/StringUTF16", "toBytes", "([CII)[B"⟩ : MethodName) jdk_52_method_14_code 5 (some (.array .byte)) ws { frames := 2, cells := 1, slots := 4, locals := 24 } #[(.ref b0), (.int (0 : Int32)), (.int (2 : Int32))] (own_Q_tob2 Z c0 c1 h0 n0) := by
  refine own_enter (plainFor_of_name own_pn2) (fun p e s m below meth c s₁ hx hby hlk hml hown hnm hret hZ X0 e0 => ?_)
  have N0 := Fr.nil n0
  refine own_st (S' := s₁.setTop (mkF m 0 #[.val (.ref b0), .val (.int (0 : Int32)), .val (.int (2 : Int32)), .unset, .unset] [])) (fun _ k => castTop (own_ef_tob2 m b0) k) ?_
  refine own_st (S' := s₁.setTop (mkF m 1 #[.val (.ref b0), .val (.int (0 : Int32)), .val (.int (2 : Int32)), .unset, .unset] [(.int (2 : Int32))])) (fun _ k => XS.iloadN X0.here hx rfl (hb hby own_d_jdk_52_method_14_code_0) rfl k) ?_
  obtain ⟨_, _, ⟨T101, L101, k101, n101⟩, -, X101, ⟨Lc101, hQ101, l101, y101, z101⟩, st101⟩ := Jvm.LawKit.callS X0 hx (y := (⟨"java/lang/StringUTF16", "newBytesFor", "(I)[B"⟩ : MethodName)) hown (mvT hZ (hw _ own_w79)) (mvT hZ (hw _ own_w80)) (mvT hZ (hw _ own_w22)) (mvT hZ (hw _ own_w81)) (by decide) (backOf (W := 0) (own_rm_nbf2 l Z a0 hw G1 S1 P1 G3 S3 P3 S4 S5 S6 []  h0 n0 (Nat.le_trans Z0 (Nat.le_refl _)) XO ) hZ (hw _ own_w81) (hw _ own_w22) (by decide) (by decide)) (g := (mkF m 1 #[.val (.ref b0), .val (.int (0 : Int32)), .val (.int (2 : Int32)), .unset, .unset] [(.int (2 : Int32))])) rfl (by rw [hml]; rfl) (argsL := [(.int (2 : Int32))]) (rest := []) (lenOf own_pd7 rfl) rfl (by show 2 * 0 + _ ≤ _; exact Nat.le_of_eq rfl) (hb hby own_d_jdk_52_method_14_code_1) (fun _ _ => ⟨rfl, e0, (by decide : 0 + 1 ≤ _), (by decide : 0 + 4 ≤ _)⟩)
  dsimp only [Pt.U, Pt.locs, Pt.cells, Pt.slots] at X101 l101 y101 z101 st101 hQ101
  subst l101 y101 z101
  obtain ⟨r101, kr101, rfl, M101, E101, g101, V101⟩ := hQ101
  have N101 := Fr.app N0 M101
  obtain ⟨h101, e101⟩ : ∃ z, T101.heap = z := ⟨_, rfl⟩
  rw [e101] at E101 V101
  refine own_st (S' := T101.setTop (mkF m 4 #[.val (.ref b0), .val (.int (0 : Int32)), .val (.int (2 : Int32)), .unset, .unset] [(.ref r101)])) st101 ?_
  refine own_st (S' := T101.setTop (mkF m 10 #[.val (.ref b0), .val (.int (0 : Int32)), .val (.int (2 : Int32)), .val (.ref r101), .val (.int (0 : Int32))] [(.int (0 : Int32))])) (fun _ k => XS.astoreN X101.here hx rfl (hb hby own_d_jdk_52_method_14_code_4) rfl rfl (l' := #[.val (.ref b0), .val (.int (0 : Int32)), .val (.int (2 : Int32)), .val (.ref r101), .unset]) rfl (XS.iconst X101.here hx rfl (hb hby own_d_jdk_52_method_14_code_5) (XS.istore X101.here hx rfl (hb hby own_d_jdk_52_method_14_code_6) rfl (l' := #[.val (.ref b0), .val (.int (0 : Int32)), .val (.int (2 : Int32)), .val (.ref r101), .val (.int (0 : Int32))]) rfl (XS.iload X101.here hx rfl (hb hby own_d_jdk_52_method_14_code_8) rfl k)))) ?_
  refine own_st (S' := T101.setTop (mkF m 17 #[.val (.ref b0), .val (.int (0 : Int32)), .val (.int (2 : Int32)), .val (.ref r101), .val (.int (0 : Int32))] [(.int (0 : Int32)), (.ref r101)])) (fun _ k => XS.iloadN X101.here hx rfl (hb hby own_d_jdk_52_method_14_code_10) rfl (XS.icmpNo X101.here hx rfl (hb hby own_d_jdk_52_method_14_code_11) rfl (by decide) (XS.aloadN X101.here hx rfl (hb hby own_d_jdk_52_method_14_code_14) rfl rfl (XS.iload X101.here hx rfl (hb hby own_d_jdk_52_method_14_code_15) rfl k)))) ?_
  refine own_st (S' := T101.setTop (mkF m 19 #[.val (.ref b0), .val (.int (0 : Int32)), .val (.int (2 : Int32)), .val (.ref r101), .val (.int (0 : Int32))] [(.int (0 : Int32)), (.ref b0), (.int (0 : Int32)), (.ref r101)])) (fun _ k => XS.aloadN X101.here hx rfl (hb hby own_d_jdk_52_method_14_code_17) rfl rfl (XS.iloadN X101.here hx rfl (hb hby own_d_jdk_52_method_14_code_18) rfl k)) ?_
  have V102 : Arv Z h101 b0 kc .char (2 : Int32) [(.int c0), (.int c1)] (.int (0 : Int32)) := (V1.ext E101)
  obtain ⟨c103, A103, q103, S103, M103, H103, U103⟩ := id V102
  have i103 := inb_of (j := (0 : Int32)) S103 ⟨by decide, by decide⟩
  refine own_st (S' := T101.setTop (mkF m 20 #[.val (.ref b0), .val (.int (0 : Int32)), .val (.int (2 : Int32)), .val (.ref r101), .val (.int (0 : Int32))] [(.int c0), (.int (0 : Int32)), (.ref r101)])) (X101.caload hx (j := (0 : Int32)) (v := (.int c0)) (by rw [e101]; exact A103.1) (State.isArrayOf_alike hZ.alike A103.2.1) A103.2.2 i103 (H103.at i103 rfl) (g := (mkF m 19 #[.val (.ref b0), .val (.int (0 : Int32)), .val (.int (2 : Int32)), .val (.ref r101), .val (.int (0 : Int32))] [(.int (0 : Int32)), (.ref b0), (.int (0 : Int32)), (.ref r101)])) rfl rfl (hb hby own_d_jdk_52_method_14_code_19)) ?_
  have XO104 : Old Z n0 h101 := (XO.ext E101)
  obtain ⟨_, _, ⟨T105, L105, k105, n105⟩, -, X105, ⟨Lc105, hQ105, l105, y105, z105⟩, st105⟩ := Jvm.LawKit.callS X101 hx (y := (⟨"java/lang/StringUTF16", "putChar", "([BII)V"⟩ : MethodName)) hown (mvT hZ (hw _ own_w86)) (mvT hZ (hw _ own_w87)) (mvT hZ (hw _ own_w22)) (mvT hZ (hw _ own_w88)) (by decide) (backOf (W := 0) (own_rm_putc l Z a0 hw G1 S1 P1 G3 S3 P3 S4 S5 S6 [] r101 (0 : Int32) c0 (0 : Int32) (4 : Int32) 0 kr101 [(.int (0 : Int32)), (.int (0 : Int32)), (.int (0 : Int32)), (.int (0 : Int32))] h101 n0 (Nat.le_trans Z0 E101.1) XO104 (Nat.le_trans Z0 g101) V101 (by decide) ⟨by decide, by decide⟩ ⟨by decide, by decide⟩ (by decide) (by decide) (Nat.le_of_ble_eq_true rfl)) hZ (hw _ own_w88) (hw _ own_w22) (by decide) (by decide)) (g := (mkF m 20 #[.val (.ref b0), .val (.int (0 : Int32)), .val (.int (2 : Int32)), .val (.ref r101), .val (.int (0 : Int32))] [(.int c0), (.int (0 : Int32)), (.ref r101)])) rfl (by rw [hml]; rfl) (argsL := [(.ref r101), (.int (0 : Int32)), (.int c0)]) (rest := []) (lenOf own_pd8 rfl) rfl (by show 2 * 0 + _ ≤ _; exact Nat.le_of_eq rfl) (hb hby own_d_jdk_52_method_14_code_20) (fun _ _ => ⟨rfl, e101, (by decide : 1 + 0 ≤ _), (by decide : 4 + 0 ≤ _)⟩)
  dsimp only [Pt.U, Pt.locs, Pt.cells, Pt.slots] at X105 l105 y105 z105 st105 hQ105
  subst l105 y105 z105
  obtain ⟨rfl, M105, K105, U105⟩ := hQ105
  have N105 := Fr.app N101 M105
  obtain ⟨h105, e105⟩ : ∃ z, T105.heap = z := ⟨_, rfl⟩
  rw [e105] at K105 U105
  have V105 : Arv Z h105 r101 kr101 .byte (4 : Int32) [(.int (StrChars.lo8 c0)), (.int (StrChars.hi8 c0)), (.int (0 : Int32)), (.int (0 : Int32))] (.int (0 : Int32)) := U105
  refine own_st (S' := T105.setTop (mkF m 23 #[.val (.ref b0), .val (.int (0 : Int32)), .val (.int (2 : Int32)), .val (.ref r101), .val (.int (0 : Int32))] [])) st105 ?_
  refine own_st (S' := T105.setTop (mkF m 10 #[.val (.ref b0), .val (.int (1 : Int32)), .val (.int (2 : Int32)), .val (.ref r101), .val (.int (1 : Int32))] [(.int (1 : Int32))])) (fun _ k => XS.iinc X105.here hx rfl (hb hby own_d_jdk_52_method_14_code_23) rfl (l' := #[.val (.ref b0), .val (.int (1 : Int32)), .val (.int (2 : Int32)), .val (.ref r101), .val (.int (0 : Int32))]) rfl (XS.iinc X105.here hx rfl (hb hby own_d_jdk_52_method_14_code_26) rfl (l' := #[.val (.ref b0), .val (.int (1 : Int32)), .val (.int (2 : Int32)), .val (.ref r101), .val (.int (1 : Int32))]) rfl (XS.goto X105.here hx rfl (pc0 := 29) (pc' := 8) rfl (hb hby own_d_jdk_52_method_14_code_29) (by decide) (by decide) (XS.iload X105.here hx rfl (hb hby own_d_jdk_52_method_14_code_8) rfl k)))) ?_
  refine own_st (S' := T105.setTop (mkF m 17 #[.val (.ref b0), .val (.int (1 : Int32)), .val (.int (2 : Int32)), .val (.ref r101), .val (.int (1 : Int32))] [(.int (1 : Int32)), (.ref r101)])) (fun _ k => XS.iloadN X105.here hx rfl (hb hby own_d_jdk_52_method_14_code_10) rfl (XS.icmpNo X105.here hx rfl (hb hby own_d_jdk_52_method_14_code_11) rfl (by decide) (XS.aloadN X105.here hx rfl (hb hby own_d_jdk_52_method_14_code_14) rfl rfl (XS.iload X105.here hx rfl (hb hby own_d_jdk_52_method_14_code_15) rfl k)))) ?_
  refine own_st (S' := T105.setTop (mkF m 19 #[.val (.ref b0), .val (.int (1 : Int32)), .val (.int (2 : Int32)), .val (.ref r101), .val (.int (1 : Int32))] [(.int (1 : Int32)), (.ref b0), (.int (1 : Int32)), (.ref r101)])) (fun _ k => XS.aloadN X105.here hx rfl (hb hby own_d_jdk_52_method_14_code_17) rfl rfl (XS.iloadN X105.here hx rfl (hb hby own_d_jdk_52_method_14_code_18) rfl k)) ?_
  have V106 : Arv Z h105 b0 kc .char (2 : Int32) [(.int c0), (.int c1)] (.int (0 : Int32)) := (V102.keep K105 (ninS (Nat.ne_of_lt (Nat.lt_of_lt_of_le V1.lt g101)) nin0))
  obtain ⟨c107, A107, q107, S107, M107, H107, U107⟩ := id V106
  have i107 := inb_of (j := (1 : Int32)) S107 ⟨by decide, by decide⟩
  refine own_st (S' := T105.setTop (mkF m 20 #[.val (.ref b0), .val (.int (1 : Int32)), .val (.int (2 : Int32)), .val (.ref r101), .val (.int (1 : Int32))] [(.int c1), (.int (1 : Int32)), (.ref r101)])) (X105.caload hx (j := (1 : Int32)) (v := (.int c1)) (by rw [e105]; exact A107.1) (State.isArrayOf_alike hZ.alike A107.2.1) A107.2.2 i107 (H107.at i107 rfl) (g := (mkF m 19 #[.val (.ref b0), .val (.int (1 : Int32)), .val (.int (2 : Int32)), .val (.ref r101), .val (.int (1 : Int32))] [(.int (1 : Int32)), (.ref b0), (.int (1 : Int32)), (.ref r101)])) rfl rfl (hb hby own_d_jdk_52_method_14_code_19)) ?_
  have XO108 : Old Z n0 h105 := (XO104.keep K105 (allS (Nat.le_trans Z0 g101) all0))
  obtain ⟨_, _, ⟨T109, L109, k109, n109⟩, -, X109, ⟨Lc109, hQ109, l109, y109, z109⟩, st109⟩ := Jvm.LawKit.callS X105 hx (y := (⟨"java/lang/StringUTF16", "putChar", "([BII)V"⟩ : MethodName)) hown (mvT hZ (hw _ own_w86)) (mvT hZ (hw _ own_w87)) (mvT hZ (hw _ own_w22)) (mvT hZ (hw _ own_w88)) (by decide) (backOf (W := 0) (own_rm_putc l Z a0 hw G1 S1 P1 G3 S3 P3 S4 S5 S6 [] r101 (1 : Int32) c1 (2 : Int32) (4 : Int32) 2 kr101 [(.int (StrChars.lo8 c0)), (.int (StrChars.hi8 c0)), (.int (0 : Int32)), (.int (0 : Int32))] h105 n0 (Nat.le_trans Z0 (Nat.le_trans E101.1 K105.1)) XO108 (Nat.le_trans Z0 g101) V105 (by decide) ⟨by decide, by decide⟩ ⟨by decide, by decide⟩ (by decide) (by decide) (Nat.le_of_ble_eq_true rfl)) hZ (hw _ own_w88) (hw _ own_w22) (by decide) (by decide)) (g := (mkF m 20 #[.val (.ref b0), .val (.int (1 : Int32)), .val (.int (2 : Int32)), .val (.ref r101), .val (.int (1 : Int32))] [(.int c1), (.int (1 : Int32)), (.ref r101)])) rfl (by rw [hml]; rfl) (argsL := [(.ref r101), (.int (1 : Int32)), (.int c1)]) (rest := []) (lenOf own_pd8 rfl) rfl (by show 2 * 0 + _ ≤ _; exact Nat.le_of_eq rfl) (hb hby own_d_jdk_52_method_14_code_20) (fun _ _ => ⟨rfl, e105, (by decide : 1 + 0 ≤ _), (by decide : 4 + 0 ≤ _)⟩)
  dsimp only [Pt.U, Pt.locs, Pt.cells, Pt.slots] at X109 l109 y109 z109 st109 hQ109
  subst l109 y109 z109
  obtain ⟨rfl, M109, K109, U109⟩ := hQ109
  have N109 := Fr.app N105 M109
  obtain ⟨h109, e109⟩ : ∃ z, T109.heap = z := ⟨_, rfl⟩
  rw [e109] at K109 U109
  have V109 : Arv Z h109 r101 kr101 .byte (4 : Int32) [(.int (StrChars.lo8 c0)), (.int (StrChars.hi8 c0)), (.int (StrChars.lo8 c1)), (.int (StrChars.hi8 c1))] (.int (0 : Int32)) := U109
  refine own_st (S' := T109.setTop (mkF m 23 #[.val (.ref b0), .val (.int (1 : Int32)), .val (.int (2 : Int32)), .val (.ref r101), .val (.int (1 : Int32))] [])) st109 ?_
  refine own_st (S' := T109.setTop (mkF m 10 #[.val (.ref b0), .val (.int (2 : Int32)), .val (.int (2 : Int32)), .val (.ref r101), .val (.int (2 : Int32))] [(.int (2 : Int32))])) (fun _ k => XS.iinc X109.here hx rfl (hb hby own_d_jdk_52_method_14_code_23) rfl (l' := #[.val (.ref b0), .val (.int (2 : Int32)), .val (.int (2 : Int32)), .val (.ref r101), .val (.int (1 : Int32))]) rfl (XS.iinc X109.here hx rfl (hb hby own_d_jdk_52_method_14_code_26) rfl (l' := #[.val (.ref b0), .val (.int (2 : Int32)), .val (.int (2 : Int32)), .val (.ref r101), .val (.int (2 : Int32))]) rfl (XS.goto X109.here hx rfl (pc0 := 29) (pc' := 8) rfl (hb hby own_d_jdk_52_method_14_code_29) (by decide) (by decide) (XS.iload X109.here hx rfl (hb hby own_d_jdk_52_method_14_code_8) rfl k)))) ?_
  refine own_st (S' := T109.setTop (mkF m 33 #[.val (.ref b0), .val (.int (2 : Int32)), .val (.int (2 : Int32)), .val (.ref r101), .val (.int (2 : Int32))] [(.ref r101)])) (fun _ k => XS.iloadN X109.here hx rfl (hb hby own_d_jdk_52_method_14_code_10) rfl (XS.icmpYes X109.here hx rfl (pc0 := 11) (pc' := 32) rfl (hb hby own_d_jdk_52_method_14_code_11) rfl (by decide) (by decide) (by decide) (XS.aloadN X109.here hx rfl (hb hby own_d_jdk_52_method_14_code_32) rfl rfl k))) ?_
  have XE110 : Ext h0 h109 := (own_xk (own_xk E101 K105 (allS g101 all0)) K109 (allS g101 all0))
  refine own_ret X109 hx hret hlk rfl (Or.inr (Or.inr (Or.inr (Or.inr ⟨rfl, rfl, rfl⟩)))) (hb hby own_d_jdk_52_method_14_code_33) (by decide) (by decide) ?_
  rw [e109]
  exact ⟨r101, kr101, rfl, N109, XE110, g101, V109⟩
def own_Q_cm52 (Z : State) (d0 : Addr) (k0 : ClassId) (c0 c1 : Int32) (h0 : Heap) (n0 : Nat) (v : Option Value) (h : Heap) (L : List Loc) : Prop := Fr n0 L ∧ Keep h0 h [d0] ∧ ((v = some (.int 2) ∧ (¬ ((255 : Int32) < c0) ∧ ¬ ((255 : Int32) < c1)) ∧ Arv Z h d0 k0 .byte (2 : Int32) [.int (StrChars.lo8 c0), .int (StrChars.lo8 c1)] (.int (0 : Int32))) ∨ ∃ j : Nat, j < 2 ∧ v = some (.int (Int32.ofNat j)) ∧ (255 : Int32) < [c0, c1].getD j 0)
theorem own_ef_cm52 (m : MethodId) (b0 : Addr) (d0 : Addr) : entryFrame m #[(.ref b0), (.int (0 : Int32)), (.ref d0), (.int (0 : Int32)), (.int (2 : Int32))] 7 = mkF m 0 #[.val (.ref b0), .val (.int (0 : Int32)), .val (.ref d0), .val (.int (0 : Int32)), .val (.int (2 : Int32)), .unset, .unset] [] := by first | (simp [entryFrame, mkF, argsToLocals, Value.category, maxLocals]; done) | rfl
set_option maxRecDepth 65536 in
set_option maxHeartbeats 40000000 in
theorem own_rm_cm52 (l : Launch) (Z : State) (a0 : Array Value) (hw : ∀ d ∈ tables_1, d.before a0 Z = true) (G1 : Int32) (S1 : Sta Z Z.heap "java/lang/String" "COMPACT_STRINGS" "Z" (.int G1)) (P1 : ¬ G1 = 0) (G3 : Value) (S3 : Sta Z Z.heap "jdk/internal/util/Preconditions" "SIOOBE_FORMATTER" "Ljava/util/function/BiFunction;" G3) (P3 : G3.isRef = true) (S4 : Sta Z Z.heap "java/lang/StringUTF16" "$assertionsDisabled" "Z" (.int (1 : Int32))) (S5 : Sta Z Z.heap "java/lang/StringUTF16" "HI_BYTE_SHIFT" "I" (.int (0 : Int32))) (S6 : Sta Z Z.heap "java/lang/StringUTF16" "LO_BYTE_SHIFT" "I" (.int (8 : Int32))) (ws : List Jvm.Cond) (b0 d0 : Addr) (kc k0 : ClassId) (c0 c1 : Int32) (h0 : Heap) (n0 : Nat) (Z0 : n0 ≤ h0.size) (XO : Old Z n0 h0) (g0 : n0 ≤ d0) (hbd : b0 ≠ d0) (V1 : Arv Z h0 b0 kc .char (2 : Int32) [.int c0, .int c1] (.int (0 : Int32))) (V2 : Arv Z h0 d0 k0 .byte (2 : Int32) [(.int (0 : Int32)), (.int (0 : Int32))] (.int (0 : Int32))) :
    own_Met l Z h0 (⟨"java/lang/StringUTF16", "compress", "([CI[BII)I"⟩ : MethodName) jdk_52_method_21_code 7 (some .int) ws { frames := 0, cells := 0, slots := 0, locals := 0 } #[(.ref b0), (.int (0 : Int32)), (.ref d0), (.int (0 : Int32)), (.int (2 : Int32))] (own_Q_cm52 Z d0 k0 c0 c1 h0 n0) := by
  refine own_enter (plainFor_of_name own_pn2) (fun p e s m below meth c s₁ hx hby hlk hml hown hnm hret hZ X0 e0 => ?_)
  have N0 := Fr.nil n0
  refine own_st (S' := s₁.setTop (mkF m 0 #[.val (.ref b0), .val (.int (0 : Int32)), .val (.ref d0), .val (.int (0 : Int32)), .val (.int (2 : Int32)), .unset, .unset] [])) (fun _ k => castTop (own_ef_cm52 m b0 d0) k) ?_
  refine own_st (S' := s₁.setTop (mkF m 7 #[.val (.ref b0), .val (.int (0 : Int32)), .val (.ref d0), .val (.int (0 : Int32)), .val (.int (2 : Int32)), .val (.int (0 : Int32)), .unset] [(.int (2 : Int32)), (.int (0 : Int32))])) (fun _ k => XS.iconst X0.here hx rfl (hb hby own_d_jdk_52_method_21_code_0) (XS.istore X0.here hx rfl (hb hby own_d_jdk_52_method_21_code_1) rfl (l' := #[.val (.ref b0), .val (.int (0 : Int32)), .val (.ref d0), .val (.int (0 : Int32)), .val (.int (2 : Int32)), .val (.int (0 : Int32)), .unset]) rfl (XS.iload X0.here hx rfl (hb hby own_d_jdk_52_method_21_code_3) rfl (XS.iload X0.here hx rfl (hb hby own_d_jdk_52_method_21_code_5) rfl k)))) ?_
  refine own_st (S' := s₁.setTop (mkF m 12 #[.val (.ref b0), .val (.int (0 : Int32)), .val (.ref d0), .val (.int (0 : Int32)), .val (.int (2 : Int32)), .val (.int (0 : Int32)), .unset] [(.int (0 : Int32)), (.ref b0)])) (fun _ k => XS.icmpNo X0.here hx rfl (hb hby own_d_jdk_52_method_21_code_7) rfl (by decide) (XS.aloadN X0.here hx rfl (hb hby own_d_jdk_52_method_21_code_10) rfl rfl (XS.iloadN X0.here hx rfl (hb hby own_d_jdk_52_method_21_code_11) rfl k))) ?_
  obtain ⟨c101, A101, q101, S101, M101, H101, U101⟩ := id V1
  have i101 := inb_of (j := (0 : Int32)) S101 ⟨by decide, by decide⟩
  refine own_st (S' := s₁.setTop (mkF m 13 #[.val (.ref b0), .val (.int (0 : Int32)), .val (.ref d0), .val (.int (0 : Int32)), .val (.int (2 : Int32)), .val (.int (0 : Int32)), .unset] [(.int c0)])) (X0.caload hx (j := (0 : Int32)) (v := (.int c0)) (by rw [e0]; exact A101.1) (State.isArrayOf_alike hZ.alike A101.2.1) A101.2.2 i101 (H101.at i101 rfl) (g := (mkF m 12 #[.val (.ref b0), .val (.int (0 : Int32)), .val (.ref d0), .val (.int (0 : Int32)), .val (.int (2 : Int32)), .val (.int (0 : Int32)), .unset] [(.int (0 : Int32)), (.ref b0)])) rfl rfl (hb hby own_d_jdk_52_method_21_code_12)) ?_
  refine own_st (S' := s₁.setTop (mkF m 20 #[.val (.ref b0), .val (.int (0 : Int32)), .val (.ref d0), .val (.int (0 : Int32)), .val (.int (2 : Int32)), .val (.int (0 : Int32)), .val (.int c0)] [(.int (255 : Int32)), (.int c0)])) (fun _ k => XS.istore X0.here hx rfl (hb hby own_d_jdk_52_method_21_code_13) rfl (l' := #[.val (.ref b0), .val (.int (0 : Int32)), .val (.ref d0), .val (.int (0 : Int32)), .val (.int (2 : Int32)), .val (.int (0 : Int32)), .val (.int c0)]) rfl (XS.iload X0.here hx rfl (hb hby own_d_jdk_52_method_21_code_15) rfl (XS.sipush X0.here hx rfl (hb hby own_d_jdk_52_method_21_code_17) k))) ?_
  by_cases hc102 : (255 : Int32) < c0
  · refine own_st (S' := s₁.setTop (mkF m 25 #[.val (.ref b0), .val (.int (0 : Int32)), .val (.ref d0), .val (.int (0 : Int32)), .val (.int (2 : Int32)), .val (.int (0 : Int32)), .val (.int c0)] [(.int (0 : Int32))])) (fun _ k => XS.icmpNo X0.here hx rfl (hb hby own_d_jdk_52_method_21_code_20) rfl (tlt hc102).2.2.2 (XS.iload X0.here hx rfl (hb hby own_d_jdk_52_method_21_code_23) rfl k)) ?_
    refine own_ret X0 hx hret hlk rfl (Or.inl ⟨rfl, (by simp), _, rfl⟩) (hb hby own_d_jdk_52_method_21_code_25) (by decide) (by decide) ?_
    rw [e0]
    exact ⟨N0, (Keep.refl _ _), Or.inr ⟨0, by decide, rfl, hc102⟩⟩
  · refine own_st (S' := s₁.setTop (mkF m 30 #[.val (.ref b0), .val (.int (0 : Int32)), .val (.ref d0), .val (.int (0 : Int32)), .val (.int (2 : Int32)), .val (.int (0 : Int32)), .val (.int c0)] [(.int c0), (.int (0 : Int32)), (.ref d0)])) (fun _ k => XS.icmpYes X0.here hx rfl (pc0 := 20) (pc' := 26) rfl (hb hby own_d_jdk_52_method_21_code_20) rfl (flt hc102).2.2.2 (by decide) (by decide) (XS.aloadN X0.here hx rfl (hb hby own_d_jdk_52_method_21_code_26) rfl rfl (XS.iloadN X0.here hx rfl (hb hby own_d_jdk_52_method_21_code_27) rfl (XS.iload X0.here hx rfl (hb hby own_d_jdk_52_method_21_code_28) rfl k)))) ?_
    refine own_st (S' := s₁.setTop (mkF m 31 #[.val (.ref b0), .val (.int (0 : Int32)), .val (.ref d0), .val (.int (0 : Int32)), .val (.int (2 : Int32)), .val (.int (0 : Int32)), .val (.int c0)] [(.int (c0.toInt8.toInt32)), (.int (0 : Int32)), (.ref d0)])) (fun _ k => XS.i2b X0.here hx rfl (hb hby own_d_jdk_52_method_21_code_30) rfl k) ?_
    obtain ⟨c103, A103, q103, S103, M103, H103, U103⟩ := id V2
    obtain ⟨T103, h103, X103, e103, W103, st103⟩ := stB X0 hx hZ e0 A103 (j := (0 : Int32)) (inb_of S103 ⟨by decide, by decide⟩) (g := (mkF m 31 #[.val (.ref b0), .val (.int (0 : Int32)), .val (.ref d0), .val (.int (0 : Int32)), .val (.int (2 : Int32)), .val (.int (0 : Int32)), .val (.int c0)] [(.int (c0.toInt8.toInt32)), (.int (0 : Int32)), (.ref d0)])) rfl rfl (hb hby own_d_jdk_52_method_21_code_31)
    have N103 := Fr.snoc X103 N0 g0
    have V103 : Arv Z h103 d0 k0 .byte (2 : Int32) [(.int (nar .byte (c0.toInt8.toInt32))), (.int (0 : Int32))] (.int (0 : Int32)) := Arv.set A103 q103 S103 M103 H103 U103 (fits_nar_byte _) W103 0 rfl (Nat.le_of_ble_eq_true rfl)
    refine own_st (S' := T103.setTop (mkF m 32 #[.val (.ref b0), .val (.int (0 : Int32)), .val (.ref d0), .val (.int (0 : Int32)), .val (.int (2 : Int32)), .val (.int (0 : Int32)), .val (.int c0)] [])) st103 ?_
    refine own_st (S' := T103.setTop (mkF m 3 #[.val (.ref b0), .val (.int (1 : Int32)), .val (.ref d0), .val (.int (1 : Int32)), .val (.int (2 : Int32)), .val (.int (1 : Int32)), .val (.int c0)] [])) (fun _ k => XS.iinc X103.here hx rfl (hb hby own_d_jdk_52_method_21_code_32) rfl (l' := #[.val (.ref b0), .val (.int (1 : Int32)), .val (.ref d0), .val (.int (0 : Int32)), .val (.int (2 : Int32)), .val (.int (0 : Int32)), .val (.int c0)]) rfl (XS.iinc X103.here hx rfl (hb hby own_d_jdk_52_method_21_code_35) rfl (l' := #[.val (.ref b0), .val (.int (1 : Int32)), .val (.ref d0), .val (.int (1 : Int32)), .val (.int (2 : Int32)), .val (.int (0 : Int32)), .val (.int c0)]) rfl (XS.iinc X103.here hx rfl (hb hby own_d_jdk_52_method_21_code_38) rfl (l' := #[.val (.ref b0), .val (.int (1 : Int32)), .val (.ref d0), .val (.int (1 : Int32)), .val (.int (2 : Int32)), .val (.int (1 : Int32)), .val (.int c0)]) rfl (XS.goto X103.here hx rfl (pc0 := 41) (pc' := 3) rfl (hb hby own_d_jdk_52_method_21_code_41) (by decide) (by decide) k)))) ?_
    refine own_st (S' := T103.setTop (mkF m 11 #[.val (.ref b0), .val (.int (1 : Int32)), .val (.ref d0), .val (.int (1 : Int32)), .val (.int (2 : Int32)), .val (.int (1 : Int32)), .val (.int c0)] [(.ref b0)])) (fun _ k => XS.iload X103.here hx rfl (hb hby own_d_jdk_52_method_21_code_3) rfl (XS.iload X103.here hx rfl (hb hby own_d_jdk_52_method_21_code_5) rfl (XS.icmpNo X103.here hx rfl (hb hby own_d_jdk_52_method_21_code_7) rfl (by decide) (XS.aloadN X103.here hx rfl (hb hby own_d_jdk_52_method_21_code_10) rfl rfl k)))) ?_
    refine own_st (S' := T103.setTop (mkF m 12 #[.val (.ref b0), .val (.int (1 : Int32)), .val (.ref d0), .val (.int (1 : Int32)), .val (.int (2 : Int32)), .val (.int (1 : Int32)), .val (.int c0)] [(.int (1 : Int32)), (.ref b0)])) (fun _ k => XS.iloadN X103.here hx rfl (hb hby own_d_jdk_52_method_21_code_11) rfl k) ?_
    have V104 : Arv Z h103 b0 kc .char (2 : Int32) [(.int c0), (.int c1)] (.int (0 : Int32)) := (V1.other W103 hbd)
    obtain ⟨c105, A105, q105, S105, M105, H105, U105⟩ := id V104
    have i105 := inb_of (j := (1 : Int32)) S105 ⟨by decide, by decide⟩
    refine own_st (S' := T103.setTop (mkF m 13 #[.val (.ref b0), .val (.int (1 : Int32)), .val (.ref d0), .val (.int (1 : Int32)), .val (.int (2 : Int32)), .val (.int (1 : Int32)), .val (.int c0)] [(.int c1)])) (X103.caload hx (j := (1 : Int32)) (v := (.int c1)) (by rw [e103]; exact A105.1) (State.isArrayOf_alike hZ.alike A105.2.1) A105.2.2 i105 (H105.at i105 rfl) (g := (mkF m 12 #[.val (.ref b0), .val (.int (1 : Int32)), .val (.ref d0), .val (.int (1 : Int32)), .val (.int (2 : Int32)), .val (.int (1 : Int32)), .val (.int c0)] [(.int (1 : Int32)), (.ref b0)])) rfl rfl (hb hby own_d_jdk_52_method_21_code_12)) ?_
    refine own_st (S' := T103.setTop (mkF m 20 #[.val (.ref b0), .val (.int (1 : Int32)), .val (.ref d0), .val (.int (1 : Int32)), .val (.int (2 : Int32)), .val (.int (1 : Int32)), .val (.int c1)] [(.int (255 : Int32)), (.int c1)])) (fun _ k => XS.istore X103.here hx rfl (hb hby own_d_jdk_52_method_21_code_13) rfl (l' := #[.val (.ref b0), .val (.int (1 : Int32)), .val (.ref d0), .val (.int (1 : Int32)), .val (.int (2 : Int32)), .val (.int (1 : Int32)), .val (.int c1)]) rfl (XS.iload X103.here hx rfl (hb hby own_d_jdk_52_method_21_code_15) rfl (XS.sipush X103.here hx rfl (hb hby own_d_jdk_52_method_21_code_17) k))) ?_
    by_cases hc106 : (255 : Int32) < c1
    · refine own_st (S' := T103.setTop (mkF m 25 #[.val (.ref b0), .val (.int (1 : Int32)), .val (.ref d0), .val (.int (1 : Int32)), .val (.int (2 : Int32)), .val (.int (1 : Int32)), .val (.int c1)] [(.int (1 : Int32))])) (fun _ k => XS.icmpNo X103.here hx rfl (hb hby own_d_jdk_52_method_21_code_20) rfl (tlt hc106).2.2.2 (XS.iload X103.here hx rfl (hb hby own_d_jdk_52_method_21_code_23) rfl k)) ?_
      refine own_ret X103 hx hret hlk rfl (Or.inl ⟨rfl, (by simp), _, rfl⟩) (hb hby own_d_jdk_52_method_21_code_25) (by decide) (by decide) ?_
      rw [e103]
      exact ⟨N103, ((Keep.refl _ _).wr W103 (Or.inl (List.mem_of_getElem? (i := 0) rfl))), Or.inr ⟨1, by decide, rfl, hc106⟩⟩
    · refine own_st (S' := T103.setTop (mkF m 30 #[.val (.ref b0), .val (.int (1 : Int32)), .val (.ref d0), .val (.int (1 : Int32)), .val (.int (2 : Int32)), .val (.int (1 : Int32)), .val (.int c1)] [(.int c1), (.int (1 : Int32)), (.ref d0)])) (fun _ k => XS.icmpYes X103.here hx rfl (pc0 := 20) (pc' := 26) rfl (hb hby own_d_jdk_52_method_21_code_20) rfl (flt hc106).2.2.2 (by decide) (by decide) (XS.aloadN X103.here hx rfl (hb hby own_d_jdk_52_method_21_code_26) rfl rfl (XS.iloadN X103.here hx rfl (hb hby own_d_jdk_52_method_21_code_27) rfl (XS.iload X103.here hx rfl (hb hby own_d_jdk_52_method_21_code_28) rfl k)))) ?_
      refine own_st (S' := T103.setTop (mkF m 31 #[.val (.ref b0), .val (.int (1 : Int32)), .val (.ref d0), .val (.int (1 : Int32)), .val (.int (2 : Int32)), .val (.int (1 : Int32)), .val (.int c1)] [(.int (c1.toInt8.toInt32)), (.int (1 : Int32)), (.ref d0)])) (fun _ k => XS.i2b X103.here hx rfl (hb hby own_d_jdk_52_method_21_code_30) rfl k) ?_
      obtain ⟨c107, A107, q107, S107, M107, H107, U107⟩ := id V103
      obtain ⟨T107, h107, X107, e107, W107, st107⟩ := stB X103 hx hZ e103 A107 (j := (1 : Int32)) (inb_of S107 ⟨by decide, by decide⟩) (g := (mkF m 31 #[.val (.ref b0), .val (.int (1 : Int32)), .val (.ref d0), .val (.int (1 : Int32)), .val (.int (2 : Int32)), .val (.int (1 : Int32)), .val (.int c1)] [(.int (c1.toInt8.toInt32)), (.int (1 : Int32)), (.ref d0)])) rfl rfl (hb hby own_d_jdk_52_method_21_code_31)
      have N107 := Fr.snoc X107 N103 g0
      have V107 : Arv Z h107 d0 k0 .byte (2 : Int32) [(.int (nar .byte (c0.toInt8.toInt32))), (.int (nar .byte (c1.toInt8.toInt32)))] (.int (0 : Int32)) := Arv.set A107 q107 S107 M107 H107 U107 (fits_nar_byte _) W107 1 rfl (Nat.le_of_ble_eq_true rfl)
      refine own_st (S' := T107.setTop (mkF m 32 #[.val (.ref b0), .val (.int (1 : Int32)), .val (.ref d0), .val (.int (1 : Int32)), .val (.int (2 : Int32)), .val (.int (1 : Int32)), .val (.int c1)] [])) st107 ?_
      refine own_st (S' := T107.setTop (mkF m 3 #[.val (.ref b0), .val (.int (2 : Int32)), .val (.ref d0), .val (.int (2 : Int32)), .val (.int (2 : Int32)), .val (.int (2 : Int32)), .val (.int c1)] [])) (fun _ k => XS.iinc X107.here hx rfl (hb hby own_d_jdk_52_method_21_code_32) rfl (l' := #[.val (.ref b0), .val (.int (2 : Int32)), .val (.ref d0), .val (.int (1 : Int32)), .val (.int (2 : Int32)), .val (.int (1 : Int32)), .val (.int c1)]) rfl (XS.iinc X107.here hx rfl (hb hby own_d_jdk_52_method_21_code_35) rfl (l' := #[.val (.ref b0), .val (.int (2 : Int32)), .val (.ref d0), .val (.int (2 : Int32)), .val (.int (2 : Int32)), .val (.int (1 : Int32)), .val (.int c1)]) rfl (XS.iinc X107.here hx rfl (hb hby own_d_jdk_52_method_21_code_38) rfl (l' := #[.val (.ref b0), .val (.int (2 : Int32)), .val (.ref d0), .val (.int (2 : Int32)), .val (.int (2 : Int32)), .val (.int (2 : Int32)), .val (.int c1)]) rfl (XS.goto X107.here hx rfl (pc0 := 41) (pc' := 3) rfl (hb hby own_d_jdk_52_method_21_code_41) (by decide) (by decide) k)))) ?_
      refine own_st (S' := T107.setTop (mkF m 46 #[.val (.ref b0), .val (.int (2 : Int32)), .val (.ref d0), .val (.int (2 : Int32)), .val (.int (2 : Int32)), .val (.int (2 : Int32)), .val (.int c1)] [(.int (2 : Int32))])) (fun _ k => XS.iload X107.here hx rfl (hb hby own_d_jdk_52_method_21_code_3) rfl (XS.iload X107.here hx rfl (hb hby own_d_jdk_52_method_21_code_5) rfl (XS.icmpYes X107.here hx rfl (pc0 := 7) (pc' := 44) rfl (hb hby own_d_jdk_52_method_21_code_7) rfl (by decide) (by decide) (by decide) (XS.iload X107.here hx rfl (hb hby own_d_jdk_52_method_21_code_44) rfl k)))) ?_
      refine own_ret X107 hx hret hlk rfl (Or.inl ⟨rfl, (by simp), _, rfl⟩) (hb hby own_d_jdk_52_method_21_code_46) (by decide) (by decide) ?_
      rw [e107]
      exact ⟨N107, (((Keep.refl _ _).wr W103 (Or.inl (List.mem_of_getElem? (i := 0) rfl))).wr W107 (Or.inl (List.mem_of_getElem? (i := 0) rfl))), Or.inl ⟨rfl, ⟨hc102, hc106⟩, (by have q := V107; rw [own_nb c0, own_nb c1] at q; exact q)⟩⟩
def own_Q_cod22 (Z : State) (h0 : Heap) (n0 : Nat) (v : Option Value) (h : Heap) (L : List Loc) : Prop := v = some (.int 0) ∧ Fr n0 L ∧ h = h0
theorem own_ef_cod22 (m : MethodId) (d0 : Addr) : entryFrame m #[(.ref d0), (.int (2 : Int32))] 2 = mkF m 0 #[.val (.ref d0), .val (.int (2 : Int32))] [] := by first | (simp [entryFrame, mkF, argsToLocals, Value.category, maxLocals]; done) | rfl
set_option maxRecDepth 65536 in
set_option maxHeartbeats 40000000 in
theorem own_rm_cod22 (l : Launch) (Z : State) (a0 : Array Value) (hw : ∀ d ∈ tables_1, d.before a0 Z = true) (G1 : Int32) (S1 : Sta Z Z.heap "java/lang/String" "COMPACT_STRINGS" "Z" (.int G1)) (P1 : ¬ G1 = 0) (G3 : Value) (S3 : Sta Z Z.heap "jdk/internal/util/Preconditions" "SIOOBE_FORMATTER" "Ljava/util/function/BiFunction;" G3) (P3 : G3.isRef = true) (S4 : Sta Z Z.heap "java/lang/StringUTF16" "$assertionsDisabled" "Z" (.int (1 : Int32))) (S5 : Sta Z Z.heap "java/lang/StringUTF16" "HI_BYTE_SHIFT" "I" (.int (0 : Int32))) (S6 : Sta Z Z.heap "java/lang/StringUTF16" "LO_BYTE_SHIFT" "I" (.int (8 : Int32))) (ws : List Jvm.Cond) (d0 : Addr) (k0 : ClassId) (vs : List Value) (h0 : Heap) (n0 : Nat) (Z0 : n0 ≤ h0.size) (XO : Old Z n0 h0) (V1 : Arv Z h0 d0 k0 .byte (2 : Int32) vs (.int (0 : Int32))) :
    own_Met l Z h0 (⟨"java/lang/StringUTF16", "coderFromArrayLen", "([BI)B"⟩ : MethodName) jdk_52_method_15_code 2 (some .byte) ws { frames := 0, cells := 0, slots := 0, locals := 0 } #[(.ref d0), (.int (2 : Int32))] (own_Q_cod22 Z h0 n0) := by
  refine own_enter (plainFor_of_name own_pn2) (fun p e s m below meth c s₁ hx hby hlk hml hown hnm hret hZ X0 e0 => ?_)
  have N0 := Fr.nil n0
  refine own_st (S' := s₁.setTop (mkF m 0 #[.val (.ref d0), .val (.int (2 : Int32))] [])) (fun _ k => castTop (own_ef_cod22 m d0) k) ?_
  refine own_st (S' := s₁.setTop (mkF m 2 #[.val (.ref d0), .val (.int (2 : Int32))] [(.ref d0), (.int (2 : Int32))])) (fun _ k => XS.iloadN X0.here hx rfl (hb hby own_d_jdk_52_method_15_code_0) rfl (XS.aloadN X0.here hx rfl (hb hby own_d_jdk_52_method_15_code_1) rfl rfl k)) ?_
  obtain ⟨c101, A101, q101, S101, M101, H101, U101⟩ := id V1
  refine own_st (S' := s₁.setTop (mkF m 3 #[.val (.ref d0), .val (.int (2 : Int32))] [(.int (2 : Int32)), (.int (2 : Int32))])) (len_of S101 M101 ▸ X0.arraylength hx (by rw [e0]; exact A101.1) (State.isArrayOf_alike hZ.alike A101.2.1) (g := (mkF m 2 #[.val (.ref d0), .val (.int (2 : Int32))] [(.ref d0), (.int (2 : Int32))])) rfl rfl (hb hby own_d_jdk_52_method_15_code_2)) ?_
  refine own_st (S' := s₁.setTop (mkF m 7 #[.val (.ref d0), .val (.int (2 : Int32))] [(.int (((0 : Int32).toUInt32 >>> ((31 : Int32) &&& 31).toUInt32).toInt32))])) (fun _ k => XS.isub X0.here hx rfl (hb hby own_d_jdk_52_method_15_code_3) rfl (XS.bipush X0.here hx rfl (hb hby own_d_jdk_52_method_15_code_4) (XS.iushr X0.here hx rfl (hb hby own_d_jdk_52_method_15_code_6) rfl k))) ?_
  rw [show (((0 : Int32).toUInt32 >>> ((31 : Int32) &&& 31).toUInt32).toInt32) = (0 : Int32) from by decide]
  refine own_st (S' := s₁.setTop (mkF m 8 #[.val (.ref d0), .val (.int (2 : Int32))] [(.int ((0 : Int32).toInt8.toInt32))])) (fun _ k => XS.i2b X0.here hx rfl (hb hby own_d_jdk_52_method_15_code_7) rfl k) ?_
  rw [show ((0 : Int32).toInt8.toInt32) = (0 : Int32) from by decide]
  refine own_ret X0 hx hret hlk rfl (Or.inl ⟨rfl, (by simp), _, rfl⟩) (hb hby own_d_jdk_52_method_15_code_8) (by decide) (by decide) ?_
  rw [e0]
  exact ⟨rfl, N0, rfl⟩
def own_Q_cod24 (Z : State) (h0 : Heap) (n0 : Nat) (v : Option Value) (h : Heap) (L : List Loc) : Prop := v = some (.int 1) ∧ Fr n0 L ∧ h = h0
theorem own_ef_cod24 (m : MethodId) (d0 : Addr) : entryFrame m #[(.ref d0), (.int (2 : Int32))] 2 = mkF m 0 #[.val (.ref d0), .val (.int (2 : Int32))] [] := by first | (simp [entryFrame, mkF, argsToLocals, Value.category, maxLocals]; done) | rfl
set_option maxRecDepth 65536 in
set_option maxHeartbeats 40000000 in
theorem own_rm_cod24 (l : Launch) (Z : State) (a0 : Array Value) (hw : ∀ d ∈ tables_1, d.before a0 Z = true) (G1 : Int32) (S1 : Sta Z Z.heap "java/lang/String" "COMPACT_STRINGS" "Z" (.int G1)) (P1 : ¬ G1 = 0) (G3 : Value) (S3 : Sta Z Z.heap "jdk/internal/util/Preconditions" "SIOOBE_FORMATTER" "Ljava/util/function/BiFunction;" G3) (P3 : G3.isRef = true) (S4 : Sta Z Z.heap "java/lang/StringUTF16" "$assertionsDisabled" "Z" (.int (1 : Int32))) (S5 : Sta Z Z.heap "java/lang/StringUTF16" "HI_BYTE_SHIFT" "I" (.int (0 : Int32))) (S6 : Sta Z Z.heap "java/lang/StringUTF16" "LO_BYTE_SHIFT" "I" (.int (8 : Int32))) (ws : List Jvm.Cond) (d0 : Addr) (k0 : ClassId) (vs : List Value) (h0 : Heap) (n0 : Nat) (Z0 : n0 ≤ h0.size) (XO : Old Z n0 h0) (V1 : Arv Z h0 d0 k0 .byte (4 : Int32) vs (.int (0 : Int32))) :
    own_Met l Z h0 (⟨"java/lang/StringUTF16", "coderFromArrayLen", "([BI)B"⟩ : MethodName) jdk_52_method_15_code 2 (some .byte) ws { frames := 0, cells := 0, slots := 0, locals := 0 } #[(.ref d0), (.int (2 : Int32))] (own_Q_cod24 Z h0 n0) := by
  refine own_enter (plainFor_of_name own_pn2) (fun p e s m below meth c s₁ hx hby hlk hml hown hnm hret hZ X0 e0 => ?_)
  have N0 := Fr.nil n0
  refine own_st (S' := s₁.setTop (mkF m 0 #[.val (.ref d0), .val (.int (2 : Int32))] [])) (fun _ k => castTop (own_ef_cod24 m d0) k) ?_
  refine own_st (S' := s₁.setTop (mkF m 2 #[.val (.ref d0), .val (.int (2 : Int32))] [(.ref d0), (.int (2 : Int32))])) (fun _ k => XS.iloadN X0.here hx rfl (hb hby own_d_jdk_52_method_15_code_0) rfl (XS.aloadN X0.here hx rfl (hb hby own_d_jdk_52_method_15_code_1) rfl rfl k)) ?_
  obtain ⟨c101, A101, q101, S101, M101, H101, U101⟩ := id V1
  refine own_st (S' := s₁.setTop (mkF m 3 #[.val (.ref d0), .val (.int (2 : Int32))] [(.int (4 : Int32)), (.int (2 : Int32))])) (len_of S101 M101 ▸ X0.arraylength hx (by rw [e0]; exact A101.1) (State.isArrayOf_alike hZ.alike A101.2.1) (g := (mkF m 2 #[.val (.ref d0), .val (.int (2 : Int32))] [(.ref d0), (.int (2 : Int32))])) rfl rfl (hb hby own_d_jdk_52_method_15_code_2)) ?_
  refine own_st (S' := s₁.setTop (mkF m 7 #[.val (.ref d0), .val (.int (2 : Int32))] [(.int (((-2 : Int32).toUInt32 >>> ((31 : Int32) &&& 31).toUInt32).toInt32))])) (fun _ k => XS.isub X0.here hx rfl (hb hby own_d_jdk_52_method_15_code_3) rfl (XS.bipush X0.here hx rfl (hb hby own_d_jdk_52_method_15_code_4) (XS.iushr X0.here hx rfl (hb hby own_d_jdk_52_method_15_code_6) rfl k))) ?_
  rw [show (((-2 : Int32).toUInt32 >>> ((31 : Int32) &&& 31).toUInt32).toInt32) = (1 : Int32) from by decide]
  refine own_st (S' := s₁.setTop (mkF m 8 #[.val (.ref d0), .val (.int (2 : Int32))] [(.int ((1 : Int32).toInt8.toInt32))])) (fun _ k => XS.i2b X0.here hx rfl (hb hby own_d_jdk_52_method_15_code_7) rfl k) ?_
  rw [show ((1 : Int32).toInt8.toInt32) = (1 : Int32) from by decide]
  refine own_ret X0 hx hret hlk rfl (Or.inl ⟨rfl, (by simp), _, rfl⟩) (hb hby own_d_jdk_52_method_15_code_8) (by decide) (by decide) ?_
  rw [e0]
  exact ⟨rfl, N0, rfl⟩
def own_Q_cm32 (Z : State) (c0 c1 : Int32) (h0 : Heap) (n0 : Nat) (v : Option Value) (h : Heap) (L : List Loc) : Prop := ∃ (r : Addr) (k : ClassId), v = some (.ref r) ∧ Fr n0 L ∧ Ext h0 h ∧ h0.size ≤ r ∧ (((¬ ((255 : Int32) < c0) ∧ ¬ ((255 : Int32) < c1)) ∧ Arv Z h r k .byte (2 : Int32) [.int (StrChars.lo8 c0), .int (StrChars.lo8 c1)] (.int (0 : Int32))) ∨ (((255 : Int32) < c0 ∨ (255 : Int32) < c1) ∧ Arv Z h r k .byte (4 : Int32) [.int (StrChars.lo8 c0), .int (StrChars.hi8 c0), .int (StrChars.lo8 c1), .int (StrChars.hi8 c1)] (.int (0 : Int32))))
theorem own_ef_cm32 (m : MethodId) (b0 : Addr) : entryFrame m #[(.ref b0), (.int (0 : Int32)), (.int (2 : Int32))] 6 = mkF m 0 #[.val (.ref b0), .val (.int (0 : Int32)), .val (.int (2 : Int32)), .unset, .unset, .unset] [] := by first | (simp [entryFrame, mkF, argsToLocals, Value.category, maxLocals]; done) | rfl
set_option maxRecDepth 65536 in
set_option maxHeartbeats 40000000 in
theorem own_rm_cm32 (l : Launch) (Z : State) (a0 : Array Value) (hw : ∀ d ∈ tables_1, d.before a0 Z = true) (G1 : Int32) (S1 : Sta Z Z.heap "java/lang/String" "COMPACT_STRINGS" "Z" (.int G1)) (P1 : ¬ G1 = 0) (G3 : Value) (S3 : Sta Z Z.heap "jdk/internal/util/Preconditions" "SIOOBE_FORMATTER" "Ljava/util/function/BiFunction;" G3) (P3 : G3.isRef = true) (S4 : Sta Z Z.heap "java/lang/StringUTF16" "$assertionsDisabled" "Z" (.int (1 : Int32))) (S5 : Sta Z Z.heap "java/lang/StringUTF16" "HI_BYTE_SHIFT" "I" (.int (0 : Int32))) (S6 : Sta Z Z.heap "java/lang/StringUTF16" "LO_BYTE_SHIFT" "I" (.int (8 : Int32))) (ws : List Jvm.Cond) (b0 : Addr) (kc : ClassId) (c0 c1 : Int32) (h0 : Heap) (n0 : Nat) (Z0 : n0 ≤ h0.size) (XO : Old Z n0 h0) (V1 : Arv Z h0 b0 kc .char (2 : Int32) [.int c0, .int c1] (.int (0 : Int32))) (hp0 : ¬ c0 < 0 ∧ ¬ (65535 : Int32) < c0) (hp1 : ¬ c1 < 0 ∧ ¬ (65535 : Int32) < c1) :
    own_Met l Z h0 (⟨"java/lang/StringUTF16", "compress", "([CII)[B"⟩ : MethodName) jdk_52_method_16_code 6 (some (.array .byte)) ws { frames := 3, cells := 2, slots := 6, locals := 40 } #[(.ref b0), (.int (0 : Int32)), (.int (2 : Int32))] (own_Q_cm32 Z c0 c1 h0 n0) := by
  refine own_enter (plainFor_of_name own_pn2) (fun p e s m below meth c s₁ hx hby hlk hml hown hnm hret hZ X0 e0 => ?_)
  have N0 := Fr.nil n0
  refine own_st (S' := s₁.setTop (mkF m 0 #[.val (.ref b0), .val (.int (0 : Int32)), .val (.int (2 : Int32)), .unset, .unset, .unset] [])) (fun _ k => castTop (own_ef_cm32 m b0) k) ?_
  refine own_st (S' := s₁.setTop (mkF m 1 #[.val (.ref b0), .val (.int (0 : Int32)), .val (.int (2 : Int32)), .unset, .unset, .unset] [(.int (2 : Int32))])) (fun _ k => XS.iloadN X0.here hx rfl (hb hby own_d_jdk_52_method_16_code_0) rfl k) ?_
  obtain ⟨T101, h101, k101, X101, e101, E101, A101, AE101, st101⟩ := newPE X0 hx hZ (aty := .byte) (hw _ own_w24) e0 (g := (mkF m 1 #[.val (.ref b0), .val (.int (0 : Int32)), .val (.int (2 : Int32)), .unset, .unset, .unset] [(.int (2 : Int32))])) rfl (hb hby own_d_jdk_52_method_16_code_1) rfl (by decide) (cap := 2) (by decide) (by decide) (by decide) (by decide) (ad := "[B") (by decide)
  obtain ⟨b101, g101⟩ : ∃ z, z = h0.size := ⟨_, rfl⟩
  rw [← g101] at A101 AE101 st101
  have V101 : Arv Z h101 b101 k101 .byte (2 : Int32) [(.int (0 : Int32)), (.int (0 : Int32))] (.int (0 : Int32)) := (Arv.new A101 (by decide)).pad (pad_rep [] (.int (0 : Int32)) 2)
  refine own_st (S' := T101.setTop (mkF m 3 #[.val (.ref b0), .val (.int (0 : Int32)), .val (.int (2 : Int32)), .unset, .unset, .unset] [(.ref b101)])) st101 ?_
  refine own_st (S' := T101.setTop (mkF m 7 #[.val (.ref b0), .val (.int (0 : Int32)), .val (.int (2 : Int32)), .val (.ref b101), .unset, .unset] [(.ref b101), (.int (0 : Int32)), (.ref b0)])) (fun _ k => XS.astoreN X101.here hx rfl (hb hby own_d_jdk_52_method_16_code_3) rfl rfl (l' := #[.val (.ref b0), .val (.int (0 : Int32)), .val (.int (2 : Int32)), .val (.ref b101), .unset, .unset]) rfl (XS.aloadN X101.here hx rfl (hb hby own_d_jdk_52_method_16_code_4) rfl rfl (XS.iloadN X101.here hx rfl (hb hby own_d_jdk_52_method_16_code_5) rfl (XS.aloadN X101.here hx rfl (hb hby own_d_jdk_52_method_16_code_6) rfl rfl k)))) ?_
  refine own_st (S' := T101.setTop (mkF m 9 #[.val (.ref b0), .val (.int (0 : Int32)), .val (.int (2 : Int32)), .val (.ref b101), .unset, .unset] [(.int (2 : Int32)), (.int (0 : Int32)), (.ref b101), (.int (0 : Int32)), (.ref b0)])) (fun _ k => XS.iconst X101.here hx rfl (hb hby own_d_jdk_52_method_16_code_7) (XS.iloadN X101.here hx rfl (hb hby own_d_jdk_52_method_16_code_8) rfl k)) ?_
  have V102 : Arv Z h101 b0 kc .char (2 : Int32) [(.int c0), (.int c1)] (.int (0 : Int32)) := (V1.ext E101)
  have XO103 : Old Z n0 h101 := (XO.ext E101)
  obtain ⟨_, _, ⟨T104, L104, k104, n104⟩, -, X104, ⟨Lc104, hQ104, l104, y104, z104⟩, st104⟩ := Jvm.LawKit.callS X101 hx (y := (⟨"java/lang/StringUTF16", "compress", "([CI[BII)I"⟩ : MethodName)) hown (mvT hZ (hw _ own_w25)) (mvT hZ (hw _ own_w26)) (mvT hZ (hw _ own_w22)) (mvT hZ (hw _ own_w27)) (by decide) (backOf (W := 0) (own_rm_cm52 l Z a0 hw G1 S1 P1 G3 S3 P3 S4 S5 S6 [] b0 b101 kc k101 c0 c1 h101 n0 (Nat.le_trans Z0 E101.1) XO103 (Nat.le_trans Z0 (Nat.le_of_eq g101.symm)) (Nat.ne_of_lt (Nat.lt_of_lt_of_le V1.lt (Nat.le_of_eq g101.symm))) V102 V101) hZ (hw _ own_w27) (hw _ own_w22) (by decide) (by decide)) (g := (mkF m 9 #[.val (.ref b0), .val (.int (0 : Int32)), .val (.int (2 : Int32)), .val (.ref b101), .unset, .unset] [(.int (2 : Int32)), (.int (0 : Int32)), (.ref b101), (.int (0 : Int32)), (.ref b0)])) rfl (by rw [hml]; rfl) (argsL := [(.ref b0), (.int (0 : Int32)), (.ref b101), (.int (0 : Int32)), (.int (2 : Int32))]) (rest := []) (lenOf own_pd9 rfl) rfl (by show 2 * 0 + _ ≤ _; exact Nat.le_of_eq rfl) (hb hby own_d_jdk_52_method_16_code_9) (fun _ _ => ⟨rfl, e101, (by decide : 1 + 0 ≤ _), (by decide : 2 + 0 ≤ _)⟩)
  dsimp only [Pt.U, Pt.locs, Pt.cells, Pt.slots] at X104 l104 y104 z104 st104 hQ104
  subst l104 y104 z104
  obtain ⟨M104, K104, o104⟩ := hQ104
  have N104 := Fr.app N0 M104
  obtain ⟨h104, e104⟩ : ∃ z, T104.heap = z := ⟨_, rfl⟩
  rw [e104] at K104 o104
  rcases o104 with ⟨rfl, hs104, V104⟩ | ⟨j104, hj104, rfl, hb104⟩
  · refine own_st (S' := T104.setTop (mkF m 12 #[.val (.ref b0), .val (.int (0 : Int32)), .val (.int (2 : Int32)), .val (.ref b101), .unset, .unset] [(.int (2 : Int32))])) st104 ?_
    refine own_st (S' := T104.setTop (mkF m 57 #[.val (.ref b0), .val (.int (0 : Int32)), .val (.int (2 : Int32)), .val (.ref b101), .val (.int (2 : Int32)), .unset] [])) (fun _ k => XS.istore X104.here hx rfl (hb hby own_d_jdk_52_method_16_code_12) rfl (l' := #[.val (.ref b0), .val (.int (0 : Int32)), .val (.int (2 : Int32)), .val (.ref b101), .val (.int (2 : Int32)), .unset]) rfl (XS.iload X104.here hx rfl (hb hby own_d_jdk_52_method_16_code_14) rfl (XS.iloadN X104.here hx rfl (hb hby own_d_jdk_52_method_16_code_16) rfl (XS.icmpYes X104.here hx rfl (pc0 := 17) (pc' := 57) rfl (hb hby own_d_jdk_52_method_16_code_17) rfl (by decide) (by decide) (by decide) k)))) ?_
    refine own_st (S' := T104.setTop (mkF m 58 #[.val (.ref b0), .val (.int (0 : Int32)), .val (.int (2 : Int32)), .val (.ref b101), .val (.int (2 : Int32)), .unset] [(.ref b101)])) (fun _ k => XS.aloadN X104.here hx rfl (hb hby own_d_jdk_52_method_16_code_57) rfl rfl k) ?_
    have XE105 : Ext h0 h104 := (own_xk E101 K104 (allS (Nat.le_of_eq g101.symm) all0))
    refine own_ret X104 hx hret hlk rfl (Or.inr (Or.inr (Or.inr (Or.inr ⟨rfl, rfl, rfl⟩)))) (hb hby own_d_jdk_52_method_16_code_58) (by decide) (by decide) ?_
    rw [e104]
    exact ⟨b101, k101, rfl, N104, XE105, (Nat.le_of_eq g101.symm), Or.inl ⟨hs104, V104⟩⟩
  · have hjj : j104 = 0 ∨ j104 = 1 := by omega
    rcases hjj with rfl | rfl
    · refine own_st (S' := T104.setTop (mkF m 12 #[.val (.ref b0), .val (.int (0 : Int32)), .val (.int (2 : Int32)), .val (.ref b101), .unset, .unset] [(.int (0 : Int32))])) st104 ?_
      refine own_st (S' := T104.setTop (mkF m 20 #[.val (.ref b0), .val (.int (0 : Int32)), .val (.int (2 : Int32)), .val (.ref b101), .val (.int (0 : Int32)), .unset] [])) (fun _ k => XS.istore X104.here hx rfl (hb hby own_d_jdk_52_method_16_code_12) rfl (l' := #[.val (.ref b0), .val (.int (0 : Int32)), .val (.int (2 : Int32)), .val (.ref b101), .val (.int (0 : Int32)), .unset]) rfl (XS.iload X104.here hx rfl (hb hby own_d_jdk_52_method_16_code_14) rfl (XS.iloadN X104.here hx rfl (hb hby own_d_jdk_52_method_16_code_16) rfl (XS.icmpNo X104.here hx rfl (hb hby own_d_jdk_52_method_16_code_17) rfl (by decide) k)))) ?_
      refine own_st (S' := T104.setTop (mkF m 23 #[.val (.ref b0), .val (.int (0 : Int32)), .val (.int (2 : Int32)), .val (.ref b101), .val (.int (0 : Int32)), .unset] [(.int (2 : Int32)), (.int (0 : Int32)), (.ref b0)])) (fun _ k => XS.aloadN X104.here hx rfl (hb hby own_d_jdk_52_method_16_code_20) rfl rfl (XS.iloadN X104.here hx rfl (hb hby own_d_jdk_52_method_16_code_21) rfl (XS.iloadN X104.here hx rfl (hb hby own_d_jdk_52_method_16_code_22) rfl k))) ?_
      have V106 : Arv Z h104 b0 kc .char (2 : Int32) [(.int c0), (.int c1)] (.int (0 : Int32)) := (V102.keep K104 (ninS (Nat.ne_of_lt (Nat.lt_of_lt_of_le V1.lt (Nat.le_of_eq g101.symm))) nin0))
      have XO107 : Old Z n0 h104 := (XO103.keep K104 (allS (Nat.le_trans Z0 (Nat.le_of_eq g101.symm)) all0))
      obtain ⟨_, _, ⟨T108, L108, k108, n108⟩, -, X108, ⟨Lc108, hQ108, l108, y108, z108⟩, st108⟩ := Jvm.LawKit.callS X104 hx (y := (⟨"java/lang/StringUTF16", "toBytes", "([CII)[B"⟩ : MethodName)) hown (mvT hZ (hw _ own_w76)) (mvT hZ (hw _ own_w77)) (mvT hZ (hw _ own_w22)) (mvT hZ (hw _ own_w78)) (by decide) (backOf (W := 0) (own_rm_tob2 l Z a0 hw G1 S1 P1 G3 S3 P3 S4 S5 S6 [] b0 kc c0 c1 h104 n0 (Nat.le_trans Z0 (Nat.le_trans E101.1 K104.1)) XO107 V106) hZ (hw _ own_w78) (hw _ own_w22) (by decide) (by decide)) (g := (mkF m 23 #[.val (.ref b0), .val (.int (0 : Int32)), .val (.int (2 : Int32)), .val (.ref b101), .val (.int (0 : Int32)), .unset] [(.int (2 : Int32)), (.int (0 : Int32)), (.ref b0)])) rfl (by rw [hml]; rfl) (argsL := [(.ref b0), (.int (0 : Int32)), (.int (2 : Int32))]) (rest := []) (lenOf own_pd10 rfl) rfl (by show 2 * 0 + _ ≤ _; exact Nat.le_of_eq rfl) (hb hby own_d_jdk_52_method_16_code_23) (fun _ _ => ⟨rfl, e104, (by decide : 1 + 1 ≤ _), (by decide : 2 + 4 ≤ _)⟩)
      dsimp only [Pt.U, Pt.locs, Pt.cells, Pt.slots] at X108 l108 y108 z108 st108 hQ108
      subst l108 y108 z108
      obtain ⟨r108, kr108, rfl, M108, E108, g108, V108⟩ := hQ108
      have N108 := Fr.app N104 M108
      obtain ⟨h108, e108⟩ : ∃ z, T108.heap = z := ⟨_, rfl⟩
      rw [e108] at E108 V108
      refine own_st (S' := T108.setTop (mkF m 26 #[.val (.ref b0), .val (.int (0 : Int32)), .val (.int (2 : Int32)), .val (.ref b101), .val (.int (0 : Int32)), .unset] [(.ref r108)])) st108 ?_
      refine own_st (S' := T108.setTop (mkF m 32 #[.val (.ref b0), .val (.int (0 : Int32)), .val (.int (2 : Int32)), .val (.ref b101), .val (.int (0 : Int32)), .val (.ref r108)] [(.int (0 : Int32)), (.ref r108)])) (fun _ k => XS.astore X108.here hx rfl (hb hby own_d_jdk_52_method_16_code_26) rfl rfl (l' := #[.val (.ref b0), .val (.int (0 : Int32)), .val (.int (2 : Int32)), .val (.ref b101), .val (.int (0 : Int32)), .val (.ref r108)]) rfl (XS.aload X108.here hx rfl (hb hby own_d_jdk_52_method_16_code_28) rfl rfl (XS.iload X108.here hx rfl (hb hby own_d_jdk_52_method_16_code_30) rfl k))) ?_
      have XO109 : Old Z n0 h108 := (XO107.ext E108)
      obtain ⟨_, _, ⟨T110, L110, k110, n110⟩, -, X110, ⟨Lc110, hQ110, l110, y110, z110⟩, st110⟩ := Jvm.LawKit.callS X108 hx (y := (⟨"java/lang/StringUTF16", "getChar", "([BI)C"⟩ : MethodName)) hown (mvT hZ (hw _ own_w92)) (mvT hZ (hw _ own_w93)) (mvT hZ (hw _ own_w22)) (mvT hZ (hw _ own_w94)) (by decide) (backOf (W := 0) (own_rm_getc l Z a0 hw G1 S1 P1 G3 S3 P3 S4 S5 S6 [] r108 (0 : Int32) (0 : Int32) (4 : Int32) (StrChars.lo8 c0) (StrChars.hi8 c0) kr108 _ h108 n0 (Nat.le_trans Z0 (Nat.le_trans (Nat.le_trans E101.1 K104.1) E108.1)) XO109 V108 (by decide) ⟨by decide, by decide⟩ ⟨by decide, by decide⟩ rfl rfl) hZ (hw _ own_w94) (hw _ own_w22) (by decide) (by decide)) (g := (mkF m 32 #[.val (.ref b0), .val (.int (0 : Int32)), .val (.int (2 : Int32)), .val (.ref b101), .val (.int (0 : Int32)), .val (.ref r108)] [(.int (0 : Int32)), (.ref r108)])) rfl (by rw [hml]; rfl) (argsL := [(.ref r108), (.int (0 : Int32))]) (rest := []) (lenOf own_pd4 rfl) rfl (by show 2 * 0 + _ ≤ _; exact Nat.le_of_eq rfl) (hb hby own_d_jdk_52_method_16_code_32) (fun _ _ => ⟨rfl, e108, (by decide : 2 + 0 ≤ _), (by decide : 6 + 0 ≤ _)⟩)
      dsimp only [Pt.U, Pt.locs, Pt.cells, Pt.slots] at X110 l110 y110 z110 st110 hQ110
      subst l110 y110 z110
      obtain ⟨rfl, M110, e110⟩ := hQ110
      have N110 := Fr.app N108 M110
      refine own_st (S' := T110.setTop (mkF m 35 #[.val (.ref b0), .val (.int (0 : Int32)), .val (.int (2 : Int32)), .val (.ref b101), .val (.int (0 : Int32)), .val (.ref r108)] [(.int (StrChars.pairCh (StrChars.lo8 c0) (StrChars.hi8 c0)))])) st110 ?_
      rw [StrChars.pair_says hp0.1 hp0.2]
      refine own_st (S' := T110.setTop (mkF m 56 #[.val (.ref b0), .val (.int (0 : Int32)), .val (.int (2 : Int32)), .val (.ref b101), .val (.int (0 : Int32)), .val (.ref r108)] [(.ref r108)])) (fun _ k => XS.sipush X110.here hx rfl (hb hby own_d_jdk_52_method_16_code_35) (XS.icmpYes X110.here hx rfl (pc0 := 38) (pc' := 54) rfl (hb hby own_d_jdk_52_method_16_code_38) rfl (tlt hb104).2.2.1 (by decide) (by decide) (XS.aload X110.here hx rfl (hb hby own_d_jdk_52_method_16_code_54) rfl rfl k))) ?_
      have XE111 : Ext h0 h108 := (own_xt (own_xk E101 K104 (allS (Nat.le_of_eq g101.symm) all0)) E108)
      refine own_ret X110 hx hret hlk rfl (Or.inr (Or.inr (Or.inr (Or.inr ⟨rfl, rfl, rfl⟩)))) (hb hby own_d_jdk_52_method_16_code_56) (by decide) (by decide) ?_
      rw [e110]
      exact ⟨r108, kr108, rfl, N110, XE111, (Nat.le_trans (Nat.le_trans E101.1 K104.1) g108), Or.inr ⟨Or.inl hb104, V108⟩⟩
    · refine own_st (S' := T104.setTop (mkF m 12 #[.val (.ref b0), .val (.int (0 : Int32)), .val (.int (2 : Int32)), .val (.ref b101), .unset, .unset] [(.int (1 : Int32))])) st104 ?_
      refine own_st (S' := T104.setTop (mkF m 20 #[.val (.ref b0), .val (.int (0 : Int32)), .val (.int (2 : Int32)), .val (.ref b101), .val (.int (1 : Int32)), .unset] [])) (fun _ k => XS.istore X104.here hx rfl (hb hby own_d_jdk_52_method_16_code_12) rfl (l' := #[.val (.ref b0), .val (.int (0 : Int32)), .val (.int (2 : Int32)), .val (.ref b101), .val (.int (1 : Int32)), .unset]) rfl (XS.iload X104.here hx rfl (hb hby own_d_jdk_52_method_16_code_14) rfl (XS.iloadN X104.here hx rfl (hb hby own_d_jdk_52_method_16_code_16) rfl (XS.icmpNo X104.here hx rfl (hb hby own_d_jdk_52_method_16_code_17) rfl (by decide) k)))) ?_
      refine own_st (S' := T104.setTop (mkF m 23 #[.val (.ref b0), .val (.int (0 : Int32)), .val (.int (2 : Int32)), .val (.ref b101), .val (.int (1 : Int32)), .unset] [(.int (2 : Int32)), (.int (0 : Int32)), (.ref b0)])) (fun _ k => XS.aloadN X104.here hx rfl (hb hby own_d_jdk_52_method_16_code_20) rfl rfl (XS.iloadN X104.here hx rfl (hb hby own_d_jdk_52_method_16_code_21) rfl (XS.iloadN X104.here hx rfl (hb hby own_d_jdk_52_method_16_code_22) rfl k))) ?_
      have V112 : Arv Z h104 b0 kc .char (2 : Int32) [(.int c0), (.int c1)] (.int (0 : Int32)) := (V102.keep K104 (ninS (Nat.ne_of_lt (Nat.lt_of_lt_of_le V1.lt (Nat.le_of_eq g101.symm))) nin0))
      have XO113 : Old Z n0 h104 := (XO103.keep K104 (allS (Nat.le_trans Z0 (Nat.le_of_eq g101.symm)) all0))
      obtain ⟨_, _, ⟨T114, L114, k114, n114⟩, -, X114, ⟨Lc114, hQ114, l114, y114, z114⟩, st114⟩ := Jvm.LawKit.callS X104 hx (y := (⟨"java/lang/StringUTF16", "toBytes", "([CII)[B"⟩ : MethodName)) hown (mvT hZ (hw _ own_w76)) (mvT hZ (hw _ own_w77)) (mvT hZ (hw _ own_w22)) (mvT hZ (hw _ own_w78)) (by decide) (backOf (W := 0) (own_rm_tob2 l Z a0 hw G1 S1 P1 G3 S3 P3 S4 S5 S6 [] b0 kc c0 c1 h104 n0 (Nat.le_trans Z0 (Nat.le_trans E101.1 K104.1)) XO113 V112) hZ (hw _ own_w78) (hw _ own_w22) (by decide) (by decide)) (g := (mkF m 23 #[.val (.ref b0), .val (.int (0 : Int32)), .val (.int (2 : Int32)), .val (.ref b101), .val (.int (1 : Int32)), .unset] [(.int (2 : Int32)), (.int (0 : Int32)), (.ref b0)])) rfl (by rw [hml]; rfl) (argsL := [(.ref b0), (.int (0 : Int32)), (.int (2 : Int32))]) (rest := []) (lenOf own_pd10 rfl) rfl (by show 2 * 0 + _ ≤ _; exact Nat.le_of_eq rfl) (hb hby own_d_jdk_52_method_16_code_23) (fun _ _ => ⟨rfl, e104, (by decide : 1 + 1 ≤ _), (by decide : 2 + 4 ≤ _)⟩)
      dsimp only [Pt.U, Pt.locs, Pt.cells, Pt.slots] at X114 l114 y114 z114 st114 hQ114
      subst l114 y114 z114
      obtain ⟨r114, kr114, rfl, M114, E114, g114, V114⟩ := hQ114
      have N114 := Fr.app N104 M114
      obtain ⟨h114, e114⟩ : ∃ z, T114.heap = z := ⟨_, rfl⟩
      rw [e114] at E114 V114
      refine own_st (S' := T114.setTop (mkF m 26 #[.val (.ref b0), .val (.int (0 : Int32)), .val (.int (2 : Int32)), .val (.ref b101), .val (.int (1 : Int32)), .unset] [(.ref r114)])) st114 ?_
      refine own_st (S' := T114.setTop (mkF m 32 #[.val (.ref b0), .val (.int (0 : Int32)), .val (.int (2 : Int32)), .val (.ref b101), .val (.int (1 : Int32)), .val (.ref r114)] [(.int (1 : Int32)), (.ref r114)])) (fun _ k => XS.astore X114.here hx rfl (hb hby own_d_jdk_52_method_16_code_26) rfl rfl (l' := #[.val (.ref b0), .val (.int (0 : Int32)), .val (.int (2 : Int32)), .val (.ref b101), .val (.int (1 : Int32)), .val (.ref r114)]) rfl (XS.aload X114.here hx rfl (hb hby own_d_jdk_52_method_16_code_28) rfl rfl (XS.iload X114.here hx rfl (hb hby own_d_jdk_52_method_16_code_30) rfl k))) ?_
      have XO115 : Old Z n0 h114 := (XO113.ext E114)
      obtain ⟨_, _, ⟨T116, L116, k116, n116⟩, -, X116, ⟨Lc116, hQ116, l116, y116, z116⟩, st116⟩ := Jvm.LawKit.callS X114 hx (y := (⟨"java/lang/StringUTF16", "getChar", "([BI)C"⟩ : MethodName)) hown (mvT hZ (hw _ own_w92)) (mvT hZ (hw _ own_w93)) (mvT hZ (hw _ own_w22)) (mvT hZ (hw _ own_w94)) (by decide) (backOf (W := 0) (own_rm_getc l Z a0 hw G1 S1 P1 G3 S3 P3 S4 S5 S6 [] r114 (1 : Int32) (2 : Int32) (4 : Int32) (StrChars.lo8 c1) (StrChars.hi8 c1) kr114 _ h114 n0 (Nat.le_trans Z0 (Nat.le_trans (Nat.le_trans E101.1 K104.1) E114.1)) XO115 V114 (by decide) ⟨by decide, by decide⟩ ⟨by decide, by decide⟩ rfl rfl) hZ (hw _ own_w94) (hw _ own_w22) (by decide) (by decide)) (g := (mkF m 32 #[.val (.ref b0), .val (.int (0 : Int32)), .val (.int (2 : Int32)), .val (.ref b101), .val (.int (1 : Int32)), .val (.ref r114)] [(.int (1 : Int32)), (.ref r114)])) rfl (by rw [hml]; rfl) (argsL := [(.ref r114), (.int (1 : Int32))]) (rest := []) (lenOf own_pd4 rfl) rfl (by show 2 * 0 + _ ≤ _; exact Nat.le_of_eq rfl) (hb hby own_d_jdk_52_method_16_code_32) (fun _ _ => ⟨rfl, e114, (by decide : 2 + 0 ≤ _), (by decide : 6 + 0 ≤ _)⟩)
      dsimp only [Pt.U, Pt.locs, Pt.cells, Pt.slots] at X116 l116 y116 z116 st116 hQ116
      subst l116 y116 z116
      obtain ⟨rfl, M116, e116⟩ := hQ116
      have N116 := Fr.app N114 M116
      refine own_st (S' := T116.setTop (mkF m 35 #[.val (.ref b0), .val (.int (0 : Int32)), .val (.int (2 : Int32)), .val (.ref b101), .val (.int (1 : Int32)), .val (.ref r114)] [(.int (StrChars.pairCh (StrChars.lo8 c1) (StrChars.hi8 c1)))])) st116 ?_
      rw [StrChars.pair_says hp1.1 hp1.2]
      refine own_st (S' := T116.setTop (mkF m 56 #[.val (.ref b0), .val (.int (0 : Int32)), .val (.int (2 : Int32)), .val (.ref b101), .val (.int (1 : Int32)), .val (.ref r114)] [(.ref r114)])) (fun _ k => XS.sipush X116.here hx rfl (hb hby own_d_jdk_52_method_16_code_35) (XS.icmpYes X116.here hx rfl (pc0 := 38) (pc' := 54) rfl (hb hby own_d_jdk_52_method_16_code_38) rfl (tlt hb104).2.2.1 (by decide) (by decide) (XS.aload X116.here hx rfl (hb hby own_d_jdk_52_method_16_code_54) rfl rfl k))) ?_
      have XE117 : Ext h0 h114 := (own_xt (own_xk E101 K104 (allS (Nat.le_of_eq g101.symm) all0)) E114)
      refine own_ret X116 hx hret hlk rfl (Or.inr (Or.inr (Or.inr (Or.inr ⟨rfl, rfl, rfl⟩)))) (hb hby own_d_jdk_52_method_16_code_56) (by decide) (by decide) ?_
      rw [e116]
      exact ⟨r114, kr114, rfl, N116, XE117, (Nat.le_trans (Nat.le_trans E101.1 K104.1) g114), Or.inr ⟨Or.inr (hb104), V114⟩⟩
def own_Q_in42 (Z : State) (x0 : Addr) (c0 c1 : Int32) (h0 : Heap) (n0 : Nat) (v : Option Value) (h : Heap) (L : List Loc) : Prop := v = none ∧ Fr n0 L ∧ Keep h0 h [x0] ∧ own_Str Z h x0 [c0, c1]
theorem own_ef_in42 (m : MethodId) (x0 : Addr) (b0 : Addr) : entryFrame m #[(.ref x0), (.ref b0), (.int (0 : Int32)), (.int (2 : Int32)), .null] 6 = mkF m 0 #[.val (.ref x0), .val (.ref b0), .val (.int (0 : Int32)), .val (.int (2 : Int32)), .val .null, .unset] [] := by first | (simp [entryFrame, mkF, argsToLocals, Value.category, maxLocals]; done) | rfl
set_option maxRecDepth 65536 in
set_option maxHeartbeats 40000000 in
theorem own_rm_in42 (l : Launch) (Z : State) (a0 : Array Value) (hw : ∀ d ∈ tables_1, d.before a0 Z = true) (G1 : Int32) (S1 : Sta Z Z.heap "java/lang/String" "COMPACT_STRINGS" "Z" (.int G1)) (P1 : ¬ G1 = 0) (G3 : Value) (S3 : Sta Z Z.heap "jdk/internal/util/Preconditions" "SIOOBE_FORMATTER" "Ljava/util/function/BiFunction;" G3) (P3 : G3.isRef = true) (S4 : Sta Z Z.heap "java/lang/StringUTF16" "$assertionsDisabled" "Z" (.int (1 : Int32))) (S5 : Sta Z Z.heap "java/lang/StringUTF16" "HI_BYTE_SHIFT" "I" (.int (0 : Int32))) (S6 : Sta Z Z.heap "java/lang/StringUTF16" "LO_BYTE_SHIFT" "I" (.int (8 : Int32))) (ws : List Jvm.Cond) (x0 b0 : Addr) (kc : ClassId) (c0 c1 : Int32) (h0 : Heap) (n0 : Nat) (Z0 : n0 ≤ h0.size) (XO : Old Z n0 h0) (g0 : n0 ≤ x0) (E1 : Exa Z h0 x0 "java/lang/String") (F1 : Fld Z h0 x0 "java/lang/String" "value" "[B" .null) (F2 : Fld Z h0 x0 "java/lang/String" "coder" "B" (.int (0 : Int32))) (V1 : Arv Z h0 b0 kc .char (2 : Int32) [.int c0, .int c1] (.int (0 : Int32))) (hp0 : ¬ c0 < 0 ∧ ¬ (65535 : Int32) < c0) (hp1 : ¬ c1 < 0 ∧ ¬ (65535 : Int32) < c1) :
    own_Met l Z h0 (⟨"java/lang/String", "<init>", "([CIILjava/lang/Void;)V"⟩ : MethodName) jdk_42_method_149_code 6 (none) ws { frames := 4, cells := 2, slots := 6, locals := 57 } #[(.ref x0), (.ref b0), (.int (0 : Int32)), (.int (2 : Int32)), .null] (own_Q_in42 Z x0 c0 c1 h0 n0) := by
  refine own_enter (plainFor_of_name own_pn1) (fun p e s m below meth c s₁ hx hby hlk hml hown hnm hret hZ X0 e0 => ?_)
  have N0 := Fr.nil n0
  refine own_st (S' := s₁.setTop (mkF m 0 #[.val (.ref x0), .val (.ref b0), .val (.int (0 : Int32)), .val (.int (2 : Int32)), .val .null, .unset] [])) (fun _ k => castTop (own_ef_in42 m x0 b0) k) ?_
  refine own_st (S' := s₁.setTop (mkF m 1 #[.val (.ref x0), .val (.ref b0), .val (.int (0 : Int32)), .val (.int (2 : Int32)), .val .null, .unset] [(.ref x0)])) (fun _ k => XS.aloadN X0.here hx rfl (hb hby own_d_jdk_42_method_149_code_0) rfl rfl k) ?_
  obtain ⟨T101, X101, e101, st101⟩ := initO X0 hx hZ hown (hw _ own_w16) (hw _ own_w17) (hw _ own_w18) e0 (g := (mkF m 1 #[.val (.ref x0), .val (.ref b0), .val (.int (0 : Int32)), .val (.int (2 : Int32)), .val .null, .unset] [(.ref x0)])) rfl (by rw [hml]; rfl) rfl (hb hby own_d_jdk_42_method_149_code_1) (by decide) (W := 0) (by show 2 * 0 + _ ≤ _; exact Nat.le_of_eq rfl) (by decide)
  refine own_st (S' := T101.setTop (mkF m 4 #[.val (.ref x0), .val (.ref b0), .val (.int (0 : Int32)), .val (.int (2 : Int32)), .val .null, .unset] [])) st101 ?_
  refine own_st (S' := T101.setTop (mkF m 27 #[.val (.ref x0), .val (.ref b0), .val (.int (0 : Int32)), .val (.int (2 : Int32)), .val .null, .unset] [])) (fun _ k => XS.iloadN X101.here hx rfl (hb hby own_d_jdk_42_method_149_code_4) rfl (XS.ifYes X101.here hx rfl (pc0 := 5) (pc' := 27) rfl (hb hby own_d_jdk_42_method_149_code_5) rfl (by decide) (by decide) (by decide) k)) ?_
  have S102 : Sta Z h0 "java/lang/String" "COMPACT_STRINGS" "Z" (.int G1) := (S1.ext XO.2)
  obtain ⟨T103, X103, e103, st103⟩ := getS2 X101 hx hZ hown (host := "") (Or.inl (hw _ own_w19)) Via.refl e101 S102 (g := (mkF m 27 #[.val (.ref x0), .val (.ref b0), .val (.int (0 : Int32)), .val (.int (2 : Int32)), .val .null, .unset] [])) rfl (hb hby own_d_jdk_42_method_149_code_27)
  refine own_st (S' := T103.setTop (mkF m 30 #[.val (.ref x0), .val (.ref b0), .val (.int (0 : Int32)), .val (.int (2 : Int32)), .val .null, .unset] [(.int G1)])) st103 ?_
  refine own_st (S' := T103.setTop (mkF m 36 #[.val (.ref x0), .val (.ref b0), .val (.int (0 : Int32)), .val (.int (2 : Int32)), .val .null, .unset] [(.int (2 : Int32)), (.int (0 : Int32)), (.ref b0)])) (fun _ k => XS.ifNo X103.here hx rfl (hb hby own_d_jdk_42_method_149_code_30) rfl ((if0 _ _).trans (feq P1).1) (XS.aloadN X103.here hx rfl (hb hby own_d_jdk_42_method_149_code_33) rfl rfl (XS.iloadN X103.here hx rfl (hb hby own_d_jdk_42_method_149_code_34) rfl (XS.iloadN X103.here hx rfl (hb hby own_d_jdk_42_method_149_code_35) rfl k)))) ?_
  obtain ⟨_, _, ⟨T104, L104, k104, n104⟩, -, X104, ⟨Lc104, hQ104, l104, y104, z104⟩, st104⟩ := Jvm.LawKit.callS X103 hx (y := (⟨"java/lang/StringUTF16", "compress", "([CII)[B"⟩ : MethodName)) hown (mvT hZ (hw _ own_w20)) (mvT hZ (hw _ own_w21)) (mvT hZ (hw _ own_w22)) (mvT hZ (hw _ own_w23)) (by decide) (backOf (W := 0) (own_rm_cm32 l Z a0 hw G1 S1 P1 G3 S3 P3 S4 S5 S6 [] b0 kc c0 c1 h0 n0 (Nat.le_trans Z0 (Nat.le_refl _)) XO V1 hp0 hp1) hZ (hw _ own_w23) (hw _ own_w22) (by decide) (by decide)) (g := (mkF m 36 #[.val (.ref x0), .val (.ref b0), .val (.int (0 : Int32)), .val (.int (2 : Int32)), .val .null, .unset] [(.int (2 : Int32)), (.int (0 : Int32)), (.ref b0)])) rfl (by rw [hml]; rfl) (argsL := [(.ref b0), (.int (0 : Int32)), (.int (2 : Int32))]) (rest := []) (lenOf own_pd10 rfl) rfl (by show 2 * 0 + _ ≤ _; exact Nat.le_of_eq rfl) (hb hby own_d_jdk_42_method_149_code_36) (fun _ _ => ⟨rfl, e103, (by decide : 0 + 2 ≤ _), (by decide : 0 + 6 ≤ _)⟩)
  dsimp only [Pt.U, Pt.locs, Pt.cells, Pt.slots] at X104 l104 y104 z104 st104 hQ104
  subst l104 y104 z104
  obtain ⟨r104, kr104, rfl, M104, E104, g104, o104⟩ := hQ104
  have N104 := Fr.app N0 M104
  obtain ⟨h104, e104⟩ : ∃ z, T104.heap = z := ⟨_, rfl⟩
  rw [e104] at E104 o104
  rcases o104 with ⟨hs104, V104⟩ | ⟨hs104, V104⟩
  · refine own_st (S' := T104.setTop (mkF m 39 #[.val (.ref x0), .val (.ref b0), .val (.int (0 : Int32)), .val (.int (2 : Int32)), .val .null, .unset] [(.ref r104)])) st104 ?_
    refine own_st (S' := T104.setTop (mkF m 45 #[.val (.ref x0), .val (.ref b0), .val (.int (0 : Int32)), .val (.int (2 : Int32)), .val .null, .val (.ref r104)] [(.int (2 : Int32)), (.ref r104), (.ref x0)])) (fun _ k => XS.astore X104.here hx rfl (hb hby own_d_jdk_42_method_149_code_39) rfl rfl (l' := #[.val (.ref x0), .val (.ref b0), .val (.int (0 : Int32)), .val (.int (2 : Int32)), .val .null, .val (.ref r104)]) rfl (XS.aloadN X104.here hx rfl (hb hby own_d_jdk_42_method_149_code_41) rfl rfl (XS.aload X104.here hx rfl (hb hby own_d_jdk_42_method_149_code_42) rfl rfl (XS.iloadN X104.here hx rfl (hb hby own_d_jdk_42_method_149_code_44) rfl k)))) ?_
    have XO105 : Old Z n0 h104 := (XO.ext E104)
    obtain ⟨_, _, ⟨T106, L106, k106, n106⟩, -, X106, ⟨Lc106, hQ106, l106, y106, z106⟩, st106⟩ := Jvm.LawKit.callS X104 hx (y := (⟨"java/lang/StringUTF16", "coderFromArrayLen", "([BI)B"⟩ : MethodName)) hown (mvT hZ (hw _ own_w28)) (mvT hZ (hw _ own_w29)) (mvT hZ (hw _ own_w22)) (mvT hZ (hw _ own_w30)) (by decide) (backOf (W := 1) (own_rm_cod22 l Z a0 hw G1 S1 P1 G3 S3 P3 S4 S5 S6 [] r104 kr104 _ h104 n0 (Nat.le_trans Z0 E104.1) XO105 V104) hZ (hw _ own_w30) (hw _ own_w22) (by decide) (by decide)) (g := (mkF m 45 #[.val (.ref x0), .val (.ref b0), .val (.int (0 : Int32)), .val (.int (2 : Int32)), .val .null, .val (.ref r104)] [(.int (2 : Int32)), (.ref r104), (.ref x0)])) rfl (by rw [hml]; rfl) (argsL := [(.ref r104), (.int (2 : Int32))]) (rest := [(.ref x0)]) (lenOf own_pd11 rfl) rfl (by show 2 * 0 + _ ≤ _; exact Nat.le_of_eq rfl) (hb hby own_d_jdk_42_method_149_code_45) (fun _ _ => ⟨rfl, e104, (by decide : 2 + 0 ≤ _), (by decide : 6 + 0 ≤ _)⟩)
    dsimp only [Pt.U, Pt.locs, Pt.cells, Pt.slots] at X106 l106 y106 z106 st106 hQ106
    subst l106 y106 z106
    obtain ⟨rfl, M106, e106⟩ := hQ106
    have N106 := Fr.app N104 M106
    refine own_st (S' := T106.setTop (mkF m 48 #[.val (.ref x0), .val (.ref b0), .val (.int (0 : Int32)), .val (.int (2 : Int32)), .val .null, .val (.ref r104)] [(.int (0 : Int32)), (.ref x0)])) st106 ?_
    have F107 : Fld Z h104 x0 "java/lang/String" "coder" "B" (.int (0 : Int32)) := (F2.ext E104)
    have A108 : Exa Z h104 x0 "java/lang/String" := (E1.ext E104)
    obtain ⟨T109, h109, X109, e109, W109, st109⟩ := putF X106 hx hZ hown (host := "") (Or.inl (hw _ own_w31)) Via.refl e106 F107 A108 (Or.inr ⟨(hw _ own_w32), rfl, hnm⟩) (hw _ own_w7) (ty := .byte) (by decide) rfl rfl (g := (mkF m 48 #[.val (.ref x0), .val (.ref b0), .val (.int (0 : Int32)), .val (.int (2 : Int32)), .val .null, .val (.ref r104)] [(.int (0 : Int32)), (.ref x0)])) rfl rfl (hb hby own_d_jdk_42_method_149_code_48)
    have N109 := Fr.snoc X109 N106 g0
    refine own_st (S' := T109.setTop (mkF m 51 #[.val (.ref x0), .val (.ref b0), .val (.int (0 : Int32)), .val (.int (2 : Int32)), .val .null, .val (.ref r104)] [])) st109 ?_
    refine own_st (S' := T109.setTop (mkF m 54 #[.val (.ref x0), .val (.ref b0), .val (.int (0 : Int32)), .val (.int (2 : Int32)), .val .null, .val (.ref r104)] [(.ref r104), (.ref x0)])) (fun _ k => XS.aloadN X109.here hx rfl (hb hby own_d_jdk_42_method_149_code_51) rfl rfl (XS.aload X109.here hx rfl (hb hby own_d_jdk_42_method_149_code_52) rfl rfl k)) ?_
    have F110 : Fld Z h109 x0 "java/lang/String" "value" "[B" .null := ((F1.ext E104).other W109 (Or.inr (slot_ne (Or.inr (hw _ own_w34)) (Or.inr (hw _ own_w32)) (by decide) (t := (.array .byte)) (t' := .byte) (by decide) (by decide))))
    have A111 : Exa Z h109 x0 "java/lang/String" := (A108.wr W109)
    obtain ⟨T112, h112, X112, e112, W112, st112⟩ := putF X109 hx hZ hown (host := "") (Or.inl (hw _ own_w33)) Via.refl e109 F110 A111 (Or.inr ⟨(hw _ own_w34), rfl, hnm⟩) (hw _ own_w7) (ty := (.array .byte)) (by decide) rfl rfl (g := (mkF m 54 #[.val (.ref x0), .val (.ref b0), .val (.int (0 : Int32)), .val (.int (2 : Int32)), .val .null, .val (.ref r104)] [(.ref r104), (.ref x0)])) rfl rfl (hb hby own_d_jdk_42_method_149_code_54)
    have N112 := Fr.snoc X112 N109 g0
    refine own_st (S' := T112.setTop (mkF m 57 #[.val (.ref x0), .val (.ref b0), .val (.int (0 : Int32)), .val (.int (2 : Int32)), .val .null, .val (.ref r104)] [])) st112 ?_
    have hal : ∀ c ∈ [c0, c1], ¬ c < 0 ∧ ¬ (65535 : Int32) < c := by
      intro c hc
      simp only [List.mem_cons, List.not_mem_nil, or_false] at hc
      rcases hc with rfl | rfl
      · exact hp0
      · exact hp1
    have hcod : StrChars.Road.CodA [c0, c1] 0 (2 : Int32) [.int (StrChars.lo8 c0), .int (StrChars.lo8 c1)] := Or.inl ⟨rfl, rfl, rfl, by
      intro c hc
      simp only [List.mem_cons, List.not_mem_nil, or_false] at hc
      rcases hc with rfl | rfl
      · exact hs104.1
      · exact hs104.2⟩
    have A113 : Exa Z h112 x0 "java/lang/String" := (A111.wr W112)
    have F114 : Fld Z h112 x0 "java/lang/String" "coder" "B" (.int (0 : Int32)) := ((F107.same W109).other W112 (Or.inr (slot_ne (Or.inr (hw _ own_w32)) (Or.inr (hw _ own_w34)) (by decide) (t := .byte) (t' := (.array .byte)) (by decide) (by decide))))
    have V115 : Arv Z h112 r104 kr104 .byte (2 : Int32) [(.int (StrChars.lo8 c0)), (.int (StrChars.lo8 c1))] (.int (0 : Int32)) := ((V104.other W109 (Ne.symm (Nat.ne_of_lt (Nat.lt_of_lt_of_le E1.lt g104)))).other W112 (Ne.symm (Nat.ne_of_lt (Nat.lt_of_lt_of_le E1.lt g104))))
    refine own_ret0 X112 hx hret hlk (hb hby own_d_jdk_42_method_149_code_57) (by decide) (by decide) ?_
    rw [e112]
    exact ⟨rfl, N112, ((((Keep.refl _ _).ext E104).wr W109 (Or.inl (List.mem_of_getElem? (i := 0) rfl))).wr W112 (Or.inl (List.mem_of_getElem? (i := 0) rfl))), r104, _, _, _, _, A113, (F110.same W112), F114, V115, hcod, hal, Nat.le_of_ble_eq_true rfl⟩
  · refine own_st (S' := T104.setTop (mkF m 39 #[.val (.ref x0), .val (.ref b0), .val (.int (0 : Int32)), .val (.int (2 : Int32)), .val .null, .unset] [(.ref r104)])) st104 ?_
    refine own_st (S' := T104.setTop (mkF m 45 #[.val (.ref x0), .val (.ref b0), .val (.int (0 : Int32)), .val (.int (2 : Int32)), .val .null, .val (.ref r104)] [(.int (2 : Int32)), (.ref r104), (.ref x0)])) (fun _ k => XS.astore X104.here hx rfl (hb hby own_d_jdk_42_method_149_code_39) rfl rfl (l' := #[.val (.ref x0), .val (.ref b0), .val (.int (0 : Int32)), .val (.int (2 : Int32)), .val .null, .val (.ref r104)]) rfl (XS.aloadN X104.here hx rfl (hb hby own_d_jdk_42_method_149_code_41) rfl rfl (XS.aload X104.here hx rfl (hb hby own_d_jdk_42_method_149_code_42) rfl rfl (XS.iloadN X104.here hx rfl (hb hby own_d_jdk_42_method_149_code_44) rfl k)))) ?_
    have XO116 : Old Z n0 h104 := (XO.ext E104)
    obtain ⟨_, _, ⟨T117, L117, k117, n117⟩, -, X117, ⟨Lc117, hQ117, l117, y117, z117⟩, st117⟩ := Jvm.LawKit.callS X104 hx (y := (⟨"java/lang/StringUTF16", "coderFromArrayLen", "([BI)B"⟩ : MethodName)) hown (mvT hZ (hw _ own_w28)) (mvT hZ (hw _ own_w29)) (mvT hZ (hw _ own_w22)) (mvT hZ (hw _ own_w30)) (by decide) (backOf (W := 1) (own_rm_cod24 l Z a0 hw G1 S1 P1 G3 S3 P3 S4 S5 S6 [] r104 kr104 _ h104 n0 (Nat.le_trans Z0 E104.1) XO116 V104) hZ (hw _ own_w30) (hw _ own_w22) (by decide) (by decide)) (g := (mkF m 45 #[.val (.ref x0), .val (.ref b0), .val (.int (0 : Int32)), .val (.int (2 : Int32)), .val .null, .val (.ref r104)] [(.int (2 : Int32)), (.ref r104), (.ref x0)])) rfl (by rw [hml]; rfl) (argsL := [(.ref r104), (.int (2 : Int32))]) (rest := [(.ref x0)]) (lenOf own_pd11 rfl) rfl (by show 2 * 0 + _ ≤ _; exact Nat.le_of_eq rfl) (hb hby own_d_jdk_42_method_149_code_45) (fun _ _ => ⟨rfl, e104, (by decide : 2 + 0 ≤ _), (by decide : 6 + 0 ≤ _)⟩)
    dsimp only [Pt.U, Pt.locs, Pt.cells, Pt.slots] at X117 l117 y117 z117 st117 hQ117
    subst l117 y117 z117
    obtain ⟨rfl, M117, e117⟩ := hQ117
    have N117 := Fr.app N104 M117
    refine own_st (S' := T117.setTop (mkF m 48 #[.val (.ref x0), .val (.ref b0), .val (.int (0 : Int32)), .val (.int (2 : Int32)), .val .null, .val (.ref r104)] [(.int (1 : Int32)), (.ref x0)])) st117 ?_
    have F118 : Fld Z h104 x0 "java/lang/String" "coder" "B" (.int (0 : Int32)) := (F2.ext E104)
    have A119 : Exa Z h104 x0 "java/lang/String" := (E1.ext E104)
    obtain ⟨T120, h120, X120, e120, W120, st120⟩ := putF X117 hx hZ hown (host := "") (Or.inl (hw _ own_w31)) Via.refl e117 F118 A119 (Or.inr ⟨(hw _ own_w32), rfl, hnm⟩) (hw _ own_w7) (ty := .byte) (by decide) rfl rfl (g := (mkF m 48 #[.val (.ref x0), .val (.ref b0), .val (.int (0 : Int32)), .val (.int (2 : Int32)), .val .null, .val (.ref r104)] [(.int (1 : Int32)), (.ref x0)])) rfl rfl (hb hby own_d_jdk_42_method_149_code_48)
    have N120 := Fr.snoc X120 N117 g0
    refine own_st (S' := T120.setTop (mkF m 51 #[.val (.ref x0), .val (.ref b0), .val (.int (0 : Int32)), .val (.int (2 : Int32)), .val .null, .val (.ref r104)] [])) st120 ?_
    refine own_st (S' := T120.setTop (mkF m 54 #[.val (.ref x0), .val (.ref b0), .val (.int (0 : Int32)), .val (.int (2 : Int32)), .val .null, .val (.ref r104)] [(.ref r104), (.ref x0)])) (fun _ k => XS.aloadN X120.here hx rfl (hb hby own_d_jdk_42_method_149_code_51) rfl rfl (XS.aload X120.here hx rfl (hb hby own_d_jdk_42_method_149_code_52) rfl rfl k)) ?_
    have F121 : Fld Z h120 x0 "java/lang/String" "value" "[B" .null := ((F1.ext E104).other W120 (Or.inr (slot_ne (Or.inr (hw _ own_w34)) (Or.inr (hw _ own_w32)) (by decide) (t := (.array .byte)) (t' := .byte) (by decide) (by decide))))
    have A122 : Exa Z h120 x0 "java/lang/String" := (A119.wr W120)
    obtain ⟨T123, h123, X123, e123, W123, st123⟩ := putF X120 hx hZ hown (host := "") (Or.inl (hw _ own_w33)) Via.refl e120 F121 A122 (Or.inr ⟨(hw _ own_w34), rfl, hnm⟩) (hw _ own_w7) (ty := (.array .byte)) (by decide) rfl rfl (g := (mkF m 54 #[.val (.ref x0), .val (.ref b0), .val (.int (0 : Int32)), .val (.int (2 : Int32)), .val .null, .val (.ref r104)] [(.ref r104), (.ref x0)])) rfl rfl (hb hby own_d_jdk_42_method_149_code_54)
    have N123 := Fr.snoc X123 N120 g0
    refine own_st (S' := T123.setTop (mkF m 57 #[.val (.ref x0), .val (.ref b0), .val (.int (0 : Int32)), .val (.int (2 : Int32)), .val .null, .val (.ref r104)] [])) st123 ?_
    have hal : ∀ c ∈ [c0, c1], ¬ c < 0 ∧ ¬ (65535 : Int32) < c := by
      intro c hc
      simp only [List.mem_cons, List.not_mem_nil, or_false] at hc
      rcases hc with rfl | rfl
      · exact hp0
      · exact hp1
    have hcod : StrChars.Road.CodA [c0, c1] 1 (4 : Int32) [.int (StrChars.lo8 c0), .int (StrChars.hi8 c0), .int (StrChars.lo8 c1), .int (StrChars.hi8 c1)] := Or.inr ⟨rfl, rfl, rfl, by
      rcases hs104 with q | q
      · exact ⟨_, List.mem_of_getElem? (i := 0) rfl, q⟩
      · exact ⟨_, List.mem_of_getElem? (i := 1) rfl, q⟩⟩
    have A124 : Exa Z h123 x0 "java/lang/String" := (A122.wr W123)
    have F125 : Fld Z h123 x0 "java/lang/String" "coder" "B" (.int (1 : Int32)) := ((F118.same W120).other W123 (Or.inr (slot_ne (Or.inr (hw _ own_w32)) (Or.inr (hw _ own_w34)) (by decide) (t := .byte) (t' := (.array .byte)) (by decide) (by decide))))
    have V126 : Arv Z h123 r104 kr104 .byte (4 : Int32) [(.int (StrChars.lo8 c0)), (.int (StrChars.hi8 c0)), (.int (StrChars.lo8 c1)), (.int (StrChars.hi8 c1))] (.int (0 : Int32)) := ((V104.other W120 (Ne.symm (Nat.ne_of_lt (Nat.lt_of_lt_of_le E1.lt g104)))).other W123 (Ne.symm (Nat.ne_of_lt (Nat.lt_of_lt_of_le E1.lt g104))))
    refine own_ret0 X123 hx hret hlk (hb hby own_d_jdk_42_method_149_code_57) (by decide) (by decide) ?_
    rw [e123]
    exact ⟨rfl, N123, ((((Keep.refl _ _).ext E104).wr W120 (Or.inl (List.mem_of_getElem? (i := 0) rfl))).wr W123 (Or.inl (List.mem_of_getElem? (i := 0) rfl))), r104, _, _, _, _, A124, (F121.same W123), F125, V126, hcod, hal, Nat.le_of_ble_eq_true rfl⟩
def own_Q_in12 (Z : State) (x0 : Addr) (c0 c1 : Int32) (h0 : Heap) (n0 : Nat) (v : Option Value) (h : Heap) (L : List Loc) : Prop := v = none ∧ Fr n0 L ∧ Keep h0 h [x0] ∧ own_Str Z h x0 [c0, c1]
theorem own_ef_in12 (m : MethodId) (x0 : Addr) (b0 : Addr) : entryFrame m #[(.ref x0), (.ref b0)] 2 = mkF m 0 #[.val (.ref x0), .val (.ref b0)] [] := by first | (simp [entryFrame, mkF, argsToLocals, Value.category, maxLocals]; done) | rfl
set_option maxRecDepth 65536 in
set_option maxHeartbeats 40000000 in
theorem own_rm_in12 (l : Launch) (Z : State) (a0 : Array Value) (hw : ∀ d ∈ tables_1, d.before a0 Z = true) (G1 : Int32) (S1 : Sta Z Z.heap "java/lang/String" "COMPACT_STRINGS" "Z" (.int G1)) (P1 : ¬ G1 = 0) (G3 : Value) (S3 : Sta Z Z.heap "jdk/internal/util/Preconditions" "SIOOBE_FORMATTER" "Ljava/util/function/BiFunction;" G3) (P3 : G3.isRef = true) (S4 : Sta Z Z.heap "java/lang/StringUTF16" "$assertionsDisabled" "Z" (.int (1 : Int32))) (S5 : Sta Z Z.heap "java/lang/StringUTF16" "HI_BYTE_SHIFT" "I" (.int (0 : Int32))) (S6 : Sta Z Z.heap "java/lang/StringUTF16" "LO_BYTE_SHIFT" "I" (.int (8 : Int32))) (ws : List Jvm.Cond) (x0 b0 : Addr) (kc : ClassId) (c0 c1 : Int32) (h0 : Heap) (n0 : Nat) (Z0 : n0 ≤ h0.size) (XO : Old Z n0 h0) (g0 : n0 ≤ x0) (E1 : Exa Z h0 x0 "java/lang/String") (F1 : Fld Z h0 x0 "java/lang/String" "value" "[B" .null) (F2 : Fld Z h0 x0 "java/lang/String" "coder" "B" (.int (0 : Int32))) (V1 : Arv Z h0 b0 kc .char (2 : Int32) [.int c0, .int c1] (.int (0 : Int32))) (hp0 : ¬ c0 < 0 ∧ ¬ (65535 : Int32) < c0) (hp1 : ¬ c1 < 0 ∧ ¬ (65535 : Int32) < c1) :
    own_Met l Z h0 (⟨"java/lang/String", "<init>", "([C)V"⟩ : MethodName) jdk_42_method_3_code 2 (none) ws { frames := 5, cells := 2, slots := 6, locals := 74 } #[(.ref x0), (.ref b0)] (own_Q_in12 Z x0 c0 c1 h0 n0) := by
  refine own_enter (plainFor_of_name own_pn1) (fun p e s m below meth c s₁ hx hby hlk hml hown hnm hret hZ X0 e0 => ?_)
  have N0 := Fr.nil n0
  refine own_st (S' := s₁.setTop (mkF m 0 #[.val (.ref x0), .val (.ref b0)] [])) (fun _ k => castTop (own_ef_in12 m x0 b0) k) ?_
  refine own_st (S' := s₁.setTop (mkF m 4 #[.val (.ref x0), .val (.ref b0)] [(.ref b0), (.int (0 : Int32)), (.ref b0), (.ref x0)])) (fun _ k => XS.aloadN X0.here hx rfl (hb hby own_d_jdk_42_method_3_code_0) rfl rfl (XS.aloadN X0.here hx rfl (hb hby own_d_jdk_42_method_3_code_1) rfl rfl (XS.iconst X0.here hx rfl (hb hby own_d_jdk_42_method_3_code_2) (XS.aloadN X0.here hx rfl (hb hby own_d_jdk_42_method_3_code_3) rfl rfl k)))) ?_
  obtain ⟨c101, A101, q101, S101, M101, H101, U101⟩ := id V1
  refine own_st (S' := s₁.setTop (mkF m 5 #[.val (.ref x0), .val (.ref b0)] [(.int (2 : Int32)), (.int (0 : Int32)), (.ref b0), (.ref x0)])) (len_of S101 M101 ▸ X0.arraylength hx (by rw [e0]; exact A101.1) (State.isArrayOf_alike hZ.alike A101.2.1) (g := (mkF m 4 #[.val (.ref x0), .val (.ref b0)] [(.ref b0), (.int (0 : Int32)), (.ref b0), (.ref x0)])) rfl rfl (hb hby own_d_jdk_42_method_3_code_4)) ?_
  refine own_st (S' := s₁.setTop (mkF m 6 #[.val (.ref x0), .val (.ref b0)] [.null, (.int (2 : Int32)), (.int (0 : Int32)), (.ref b0), (.ref x0)])) (fun _ k => XS.aconstNull X0.here hx rfl (hb hby own_d_jdk_42_method_3_code_5) k) ?_
  obtain ⟨_, _, ⟨T102, L102, k102, n102⟩, -, X102, ⟨Lc102, hQ102, l102, y102, z102⟩, st102⟩ := X0.specialBack hx (y := (⟨"java/lang/String", "<init>", "([CIILjava/lang/Void;)V"⟩ : MethodName)) rfl hown (mvT hZ (hw _ own_w12)) (mvT hZ (hw _ own_w13)) (mvT hZ (hw _ own_w15)) (by decide) (backOf (W := 0) (own_rm_in42 l Z a0 hw G1 S1 P1 G3 S3 P3 S4 S5 S6 [] x0 b0 kc c0 c1 h0 n0 (Nat.le_trans Z0 (Nat.le_refl _)) XO g0 E1 F1 F2 V1 hp0 hp1) hZ (hw _ own_w15) (hw _ own_w8) (by decide) (by decide)) (g := (mkF m 6 #[.val (.ref x0), .val (.ref b0)] [.null, (.int (2 : Int32)), (.int (0 : Int32)), (.ref b0), (.ref x0)])) rfl (by rw [hml]; rfl) (Steps.refl _) (a := x0) (argsL := [(.ref b0), (.int (0 : Int32)), (.int (2 : Int32)), .null]) (rest := []) (lenOf own_pd12 rfl) rfl (by show 2 * 0 + _ ≤ _; exact Nat.le_of_eq rfl) (hb hby own_d_jdk_42_method_3_code_6) (fun _ _ => ⟨rfl, e0, (by decide : 0 + 2 ≤ _), (by decide : 0 + 6 ≤ _)⟩)
  dsimp only [Pt.U, Pt.locs, Pt.cells, Pt.slots] at X102 l102 y102 z102 st102 hQ102
  subst l102 y102 z102
  obtain ⟨rfl, M102, K102, Y102⟩ := hQ102
  have N102 := Fr.app N0 M102
  obtain ⟨h102, e102⟩ : ∃ z, T102.heap = z := ⟨_, rfl⟩
  rw [e102] at K102 Y102
  refine own_tr (S' := T102.setTop (mkF m 9 #[.val (.ref x0), .val (.ref b0)] [])) st102 ?_
  refine own_ret0 X102 hx hret hlk (hb hby own_d_jdk_42_method_3_code_9) (by decide) (by decide) ?_
  rw [e102]
  exact ⟨rfl, N102, K102, Y102⟩
def own_Q_make2 (Z : State) (c0 c1 c2 c3 : Int32) (h0 : Heap) (n0 : Nat) (v : Option Value) (h : Heap) (L : List Loc) : Prop := ∃ r, v = some (.ref r) ∧ Fr n0 L ∧ Ext h0 h ∧ h0.size ≤ r ∧ own_Str Z h r [c0, c1]
theorem own_ef_make2 (m : MethodId) (c0 : Int32) (c1 : Int32) (c2 : Int32) (c3 : Int32) : entryFrame m #[(.int (2 : Int32)), (.int c0), (.int c1), (.int c2), (.int c3)] 6 = mkF m 0 #[.val (.int (2 : Int32)), .val (.int c0), .val (.int c1), .val (.int c2), .val (.int c3), .unset] [] := by first | (simp [entryFrame, mkF, argsToLocals, Value.category, maxLocals]; done) | rfl
set_option maxRecDepth 65536 in
set_option maxHeartbeats 40000000 in
theorem own_rm_make2 (l : Launch) (Z : State) (a0 : Array Value) (hw : ∀ d ∈ tables_1, d.before a0 Z = true) (G1 : Int32) (S1 : Sta Z Z.heap "java/lang/String" "COMPACT_STRINGS" "Z" (.int G1)) (P1 : ¬ G1 = 0) (G3 : Value) (S3 : Sta Z Z.heap "jdk/internal/util/Preconditions" "SIOOBE_FORMATTER" "Ljava/util/function/BiFunction;" G3) (P3 : G3.isRef = true) (S4 : Sta Z Z.heap "java/lang/StringUTF16" "$assertionsDisabled" "Z" (.int (1 : Int32))) (S5 : Sta Z Z.heap "java/lang/StringUTF16" "HI_BYTE_SHIFT" "I" (.int (0 : Int32))) (S6 : Sta Z Z.heap "java/lang/StringUTF16" "LO_BYTE_SHIFT" "I" (.int (8 : Int32))) (ws : List Jvm.Cond) (c0 c1 c2 c3 : Int32) (h0 : Heap) (n0 : Nat) (Z0 : n0 ≤ h0.size) (XO : Old Z n0 h0) (hp0 : ¬ c0 < 0 ∧ ¬ (65535 : Int32) < c0) (hn0 : nar .char c0 = c0) (hp1 : ¬ c1 < 0 ∧ ¬ (65535 : Int32) < c1) (hn1 : nar .char c1 = c1) (hp2 : ¬ c2 < 0 ∧ ¬ (65535 : Int32) < c2) (hn2 : nar .char c2 = c2) (hp3 : ¬ c3 < 0 ∧ ¬ (65535 : Int32) < c3) (hn3 : nar .char c3 = c3) :
    own_Met l Z h0 (⟨"com/example/sault/sault/ArgumentsLockNamePinLaw", "make", "(ICCCC)Ljava/lang/String;"⟩ : MethodName) method_3_code 6 (some (.object "java/lang/String")) ws { frames := 6, cells := 4, slots := 12, locals := 88 } #[(.int (2 : Int32)), (.int c0), (.int c1), (.int c2), (.int c3)] (own_Q_make2 Z c0 c1 c2 c3 h0 n0) := by
  refine own_enter (plainFor_of_name own_pn3) (fun p e s m below meth c s₁ hx hby hlk hml hown hnm hret hZ X0 e0 => ?_)
  have N0 := Fr.nil n0
  refine own_st (S' := s₁.setTop (mkF m 0 #[.val (.int (2 : Int32)), .val (.int c0), .val (.int c1), .val (.int c2), .val (.int c3), .unset] [])) (fun _ k => castTop (own_ef_make2 m c0 c1 c2 c3) k) ?_
  refine own_st (S' := s₁.setTop (mkF m 26 #[.val (.int (2 : Int32)), .val (.int c0), .val (.int c1), .val (.int c2), .val (.int c3), .unset] [(.int (2 : Int32))])) (fun _ k => XS.iloadN X0.here hx rfl (hb hby own_d_method_3_code_0) rfl (XS.iconst X0.here hx rfl (hb hby own_d_method_3_code_1) (XS.icmpYes X0.here hx rfl (pc0 := 2) (pc' := 25) rfl (hb hby own_d_method_3_code_2) rfl (by decide) (by decide) (by decide) (XS.iloadN X0.here hx rfl (hb hby own_d_method_3_code_25) rfl k)))) ?_
  refine own_st (S' := s₁.setTop (mkF m 31 #[.val (.int (2 : Int32)), .val (.int c0), .val (.int c1), .val (.int c2), .val (.int c3), .unset] [(.int (2 : Int32))])) (fun _ k => XS.iconst X0.here hx rfl (hb hby own_d_method_3_code_26) (XS.icmpNo X0.here hx rfl (hb hby own_d_method_3_code_27) rfl (by decide) (XS.iconst X0.here hx rfl (hb hby own_d_method_3_code_30) k))) ?_
  obtain ⟨T101, h101, k101, X101, e101, E101, A101, AE101, st101⟩ := newPE X0 hx hZ (aty := .char) (hw _ own_w5) e0 (g := (mkF m 31 #[.val (.int (2 : Int32)), .val (.int c0), .val (.int c1), .val (.int c2), .val (.int c3), .unset] [(.int (2 : Int32))])) rfl (hb hby own_d_method_3_code_31) rfl (by decide) (cap := 2) (by decide) (by decide) (by decide) (by decide) (ad := "[C") (by decide)
  obtain ⟨b101, g101⟩ : ∃ z, z = h0.size := ⟨_, rfl⟩
  rw [← g101] at A101 AE101 st101
  have V101 : Arv Z h101 b101 k101 .char (2 : Int32) [(.int (0 : Int32)), (.int (0 : Int32))] (.int (0 : Int32)) := (Arv.new A101 (by decide)).pad (pad_rep [] (.int (0 : Int32)) 2)
  refine own_st (S' := T101.setTop (mkF m 33 #[.val (.int (2 : Int32)), .val (.int c0), .val (.int c1), .val (.int c2), .val (.int c3), .unset] [(.ref b101)])) st101 ?_
  refine own_st (S' := T101.setTop (mkF m 39 #[.val (.int (2 : Int32)), .val (.int c0), .val (.int c1), .val (.int c2), .val (.int c3), .val (.ref b101)] [(.int c0), (.int (0 : Int32)), (.ref b101)])) (fun _ k => XS.astore X101.here hx rfl (hb hby own_d_method_3_code_33) rfl rfl (l' := #[.val (.int (2 : Int32)), .val (.int c0), .val (.int c1), .val (.int c2), .val (.int c3), .val (.ref b101)]) rfl (XS.aload X101.here hx rfl (hb hby own_d_method_3_code_35) rfl rfl (XS.iconst X101.here hx rfl (hb hby own_d_method_3_code_37) (XS.iloadN X101.here hx rfl (hb hby own_d_method_3_code_38) rfl k)))) ?_
  obtain ⟨c102, A102, q102, S102, M102, H102, U102⟩ := id V101
  obtain ⟨T102, h102, X102, e102, W102, st102⟩ := stC X101 hx hZ e101 A102 (j := (0 : Int32)) (inb_of S102 ⟨by decide, by decide⟩) (g := (mkF m 39 #[.val (.int (2 : Int32)), .val (.int c0), .val (.int c1), .val (.int c2), .val (.int c3), .val (.ref b101)] [(.int c0), (.int (0 : Int32)), (.ref b101)])) rfl rfl (hb hby own_d_method_3_code_39)
  have N102 := Fr.snoc X102 N0 (Nat.le_trans Z0 (Nat.le_of_eq g101.symm))
  have V102 : Arv Z h102 b101 k101 .char (2 : Int32) [(.int (nar .char c0)), (.int (0 : Int32))] (.int (0 : Int32)) := Arv.set A102 q102 S102 M102 H102 U102 (fits_nar_char _) W102 0 rfl (Nat.le_of_ble_eq_true rfl)
  refine own_st (S' := T102.setTop (mkF m 40 #[.val (.int (2 : Int32)), .val (.int c0), .val (.int c1), .val (.int c2), .val (.int c3), .val (.ref b101)] [])) st102 ?_
  refine own_st (S' := T102.setTop (mkF m 44 #[.val (.int (2 : Int32)), .val (.int c0), .val (.int c1), .val (.int c2), .val (.int c3), .val (.ref b101)] [(.int c1), (.int (1 : Int32)), (.ref b101)])) (fun _ k => XS.aload X102.here hx rfl (hb hby own_d_method_3_code_40) rfl rfl (XS.iconst X102.here hx rfl (hb hby own_d_method_3_code_42) (XS.iloadN X102.here hx rfl (hb hby own_d_method_3_code_43) rfl k))) ?_
  obtain ⟨c103, A103, q103, S103, M103, H103, U103⟩ := id V102
  obtain ⟨T103, h103, X103, e103, W103, st103⟩ := stC X102 hx hZ e102 A103 (j := (1 : Int32)) (inb_of S103 ⟨by decide, by decide⟩) (g := (mkF m 44 #[.val (.int (2 : Int32)), .val (.int c0), .val (.int c1), .val (.int c2), .val (.int c3), .val (.ref b101)] [(.int c1), (.int (1 : Int32)), (.ref b101)])) rfl rfl (hb hby own_d_method_3_code_44)
  have N103 := Fr.snoc X103 N102 (Nat.le_trans Z0 (Nat.le_of_eq g101.symm))
  have V103 : Arv Z h103 b101 k101 .char (2 : Int32) [(.int (nar .char c0)), (.int (nar .char c1))] (.int (0 : Int32)) := Arv.set A103 q103 S103 M103 H103 U103 (fits_nar_char _) W103 1 rfl (Nat.le_of_ble_eq_true rfl)
  refine own_st (S' := T103.setTop (mkF m 45 #[.val (.int (2 : Int32)), .val (.int c0), .val (.int c1), .val (.int c2), .val (.int c3), .val (.ref b101)] [])) st103 ?_
  obtain ⟨T104, h104, X104, e104, E104, A104, D104, -, st104⟩ := newO X103 hx hZ hown (hw _ own_w6) (hw _ own_w7) (hw _ own_w8) e103 (g := (mkF m 45 #[.val (.int (2 : Int32)), .val (.int c0), .val (.int c1), .val (.int c2), .val (.int c3), .val (.ref b101)] [])) rfl (hb hby own_d_method_3_code_45) (by decide) (by decide)
  obtain ⟨b104, g104⟩ : ∃ z, z = h103.size := ⟨_, rfl⟩
  rw [← g104] at A104 D104 st104
  refine own_st (S' := T104.setTop (mkF m 48 #[.val (.int (2 : Int32)), .val (.int c0), .val (.int c1), .val (.int c2), .val (.int c3), .val (.ref b101)] [(.ref b104)])) st104 ?_
  refine own_st (S' := T104.setTop (mkF m 51 #[.val (.int (2 : Int32)), .val (.int c0), .val (.int c1), .val (.int c2), .val (.int c3), .val (.ref b101)] [(.ref b101), (.ref b104), (.ref b104)])) (fun _ k => XS.dup X104.here hx rfl (hb hby own_d_method_3_code_48) rfl rfl (XS.aload X104.here hx rfl (hb hby own_d_method_3_code_49) rfl rfl k)) ?_
  have V105 : Arv Z h104 b101 k101 .char (2 : Int32) [(.int (nar .char c0)), (.int (nar .char c1))] (.int (0 : Int32)) := (V103.ext E104)
  have VC : Arv Z h104 b101 k101 .char (2 : Int32) [.int c0, .int c1] (.int (0 : Int32)) := by have q := V105; rw [hn0, hn1] at q; exact q
  have XE106 : Ext h0 h104 := (own_xt (own_xw (own_xw E101 W102 (Nat.le_of_eq g101.symm)) W103 (Nat.le_of_eq g101.symm)) E104)
  have XO107 : Old Z n0 h104 := (XO.ext XE106)
  obtain ⟨_, _, ⟨T108, L108, k108, n108⟩, -, X108, ⟨Lc108, hQ108, l108, y108, z108⟩, st108⟩ := X104.specialBack hx (y := (⟨"java/lang/String", "<init>", "([C)V"⟩ : MethodName)) rfl hown (mvT hZ (hw _ own_w9)) (mvT hZ (hw _ own_w10)) (mvT hZ (hw _ own_w11)) (by decide) (backOf (W := 1) (own_rm_in12 l Z a0 hw G1 S1 P1 G3 S3 P3 S4 S5 S6 [] b104 b101 k101 c0 c1 h104 n0 (Nat.le_trans Z0 (Nat.le_trans (Nat.le_trans (Nat.le_trans E101.1 (Nat.le_of_eq W102.size.symm)) (Nat.le_of_eq W103.size.symm)) E104.1)) XO107 (Nat.le_trans Z0 (Nat.le_trans (Nat.le_trans (Nat.le_trans E101.1 (Nat.le_of_eq W102.size.symm)) (Nat.le_of_eq W103.size.symm)) (Nat.le_of_eq g104.symm))) A104 (D104 (Or.inr (hw _ own_w34)) (ty := (.array .byte)) (by decide)) (D104 (Or.inr (hw _ own_w32)) (ty := .byte) (by decide)) VC hp0 hp1) hZ (hw _ own_w11) (hw _ own_w8) (by decide) (by decide)) (g := (mkF m 51 #[.val (.int (2 : Int32)), .val (.int c0), .val (.int c1), .val (.int c2), .val (.int c3), .val (.ref b101)] [(.ref b101), (.ref b104), (.ref b104)])) rfl (by rw [hml]; rfl) (Steps.refl _) (a := b104) (argsL := [(.ref b101)]) (rest := [(.ref b104)]) (lenOf own_pd13 rfl) rfl (by show 2 * 0 + _ ≤ _; exact Nat.le_of_eq rfl) (hb hby own_d_method_3_code_51) (fun _ _ => ⟨rfl, e104, (by decide : 2 + 2 ≤ _), (by decide : 6 + 6 ≤ _)⟩)
  dsimp only [Pt.U, Pt.locs, Pt.cells, Pt.slots] at X108 l108 y108 z108 st108 hQ108
  subst l108 y108 z108
  obtain ⟨rfl, M108, K108, Y108⟩ := hQ108
  have N108 := Fr.app N103 M108
  obtain ⟨h108, e108⟩ : ∃ z, T108.heap = z := ⟨_, rfl⟩
  rw [e108] at K108 Y108
  refine own_tr (S' := T108.setTop (mkF m 54 #[.val (.int (2 : Int32)), .val (.int c0), .val (.int c1), .val (.int c2), .val (.int c3), .val (.ref b101)] [(.ref b104)])) st108 ?_
  have XE109 : Ext h0 h108 := (own_xk XE106 K108 (allS (Nat.le_trans (Nat.le_trans (Nat.le_trans E101.1 (Nat.le_of_eq W102.size.symm)) (Nat.le_of_eq W103.size.symm)) (Nat.le_of_eq g104.symm)) all0))
  refine own_ret X108 hx hret hlk rfl (Or.inr (Or.inr (Or.inr (Or.inr ⟨rfl, rfl, rfl⟩)))) (hb hby own_d_method_3_code_54) (by decide) (by decide) ?_
  rw [e108]
  exact ⟨b104, rfl, N108, XE109, (Nat.le_trans (Nat.le_trans (Nat.le_trans E101.1 (Nat.le_of_eq W102.size.symm)) (Nat.le_of_eq W103.size.symm)) (Nat.le_of_eq g104.symm)), Y108⟩
def own_Q_nbl3 (Z : State) (h0 : Heap) (n0 : Nat) (v : Option Value) (h : Heap) (L : List Loc) : Prop := v = some (.int 6) ∧ Fr n0 L ∧ h = h0
theorem own_ef_nbl3 (m : MethodId) : entryFrame m #[(.int (3 : Int32))] 1 = mkF m 0 #[.val (.int (3 : Int32))] [] := by first | (simp [entryFrame, mkF, argsToLocals, Value.category, maxLocals]; done) | rfl
set_option maxRecDepth 65536 in
set_option maxHeartbeats 40000000 in
theorem own_rm_nbl3 (l : Launch) (Z : State) (a0 : Array Value) (hw : ∀ d ∈ tables_1, d.before a0 Z = true) (G1 : Int32) (S1 : Sta Z Z.heap "java/lang/String" "COMPACT_STRINGS" "Z" (.int G1)) (P1 : ¬ G1 = 0) (G3 : Value) (S3 : Sta Z Z.heap "jdk/internal/util/Preconditions" "SIOOBE_FORMATTER" "Ljava/util/function/BiFunction;" G3) (P3 : G3.isRef = true) (S4 : Sta Z Z.heap "java/lang/StringUTF16" "$assertionsDisabled" "Z" (.int (1 : Int32))) (S5 : Sta Z Z.heap "java/lang/StringUTF16" "HI_BYTE_SHIFT" "I" (.int (0 : Int32))) (S6 : Sta Z Z.heap "java/lang/StringUTF16" "LO_BYTE_SHIFT" "I" (.int (8 : Int32))) (ws : List Jvm.Cond) (h0 : Heap) (n0 : Nat) (Z0 : n0 ≤ h0.size) (XO : Old Z n0 h0) :
    own_Met l Z h0 (⟨"java/lang/StringUTF16", "newBytesLength", "(I)I"⟩ : MethodName) jdk_52_method_3_code 1 (some .int) ws { frames := 0, cells := 0, slots := 0, locals := 0 } #[(.int (3 : Int32))] (own_Q_nbl3 Z h0 n0) := by
  refine own_enter (plainFor_of_name own_pn2) (fun p e s m below meth c s₁ hx hby hlk hml hown hnm hret hZ X0 e0 => ?_)
  have N0 := Fr.nil n0
  refine own_st (S' := s₁.setTop (mkF m 0 #[.val (.int (3 : Int32))] [])) (fun _ k => castTop (own_ef_nbl3 m) k) ?_
  refine own_st (S' := s₁.setTop (mkF m 13 #[.val (.int (3 : Int32))] [(.int (3 : Int32))])) (fun _ k => XS.iloadN X0.here hx rfl (hb hby own_d_jdk_52_method_3_code_0) rfl (XS.ifYes X0.here hx rfl (pc0 := 1) (pc' := 12) rfl (hb hby own_d_jdk_52_method_3_code_1) rfl (by decide) (by decide) (by decide) (XS.iloadN X0.here hx rfl (hb hby own_d_jdk_52_method_3_code_12) rfl k))) ?_
  refine own_st (S' := s₁.setTop (mkF m 15 #[.val (.int (3 : Int32))] [(.int (1073741823 : Int32)), (.int (3 : Int32))])) (X0.ldcInt hx hown (mvT hZ (hw _ own_w85)) (g := (mkF m 13 #[.val (.int (3 : Int32))] [(.int (3 : Int32))])) rfl (hb hby own_d_jdk_52_method_3_code_13)) ?_
  refine own_st (S' := s₁.setTop (mkF m 58 #[.val (.int (3 : Int32))] [(.int ((3 : Int32) <<< ((1 : Int32) &&& 31)))])) (fun _ k => XS.icmpYes X0.here hx rfl (pc0 := 15) (pc' := 55) rfl (hb hby own_d_jdk_52_method_3_code_15) rfl (by decide) (by decide) (by decide) (XS.iloadN X0.here hx rfl (hb hby own_d_jdk_52_method_3_code_55) rfl (XS.iconst X0.here hx rfl (hb hby own_d_jdk_52_method_3_code_56) (XS.ishl X0.here hx rfl (hb hby own_d_jdk_52_method_3_code_57) rfl k)))) ?_
  rw [show ((3 : Int32) <<< ((1 : Int32) &&& 31)) = (6 : Int32) from by decide]
  refine own_ret X0 hx hret hlk rfl (Or.inl ⟨rfl, (by simp), _, rfl⟩) (hb hby own_d_jdk_52_method_3_code_58) (by decide) (by decide) ?_
  rw [e0]
  exact ⟨rfl, N0, rfl⟩
def own_Q_nbf3 (Z : State) (h0 : Heap) (n0 : Nat) (v : Option Value) (h : Heap) (L : List Loc) : Prop := ∃ (r : Addr) (k : ClassId), v = some (.ref r) ∧ Fr n0 L ∧ Ext h0 h ∧ h0.size ≤ r ∧ Arv Z h r k .byte (6 : Int32) [(.int (0 : Int32)), (.int (0 : Int32)), (.int (0 : Int32)), (.int (0 : Int32)), (.int (0 : Int32)), (.int (0 : Int32))] (.int (0 : Int32))
theorem own_ef_nbf3 (m : MethodId) : entryFrame m #[(.int (3 : Int32))] 1 = mkF m 0 #[.val (.int (3 : Int32))] [] := by first | (simp [entryFrame, mkF, argsToLocals, Value.category, maxLocals]; done) | rfl
set_option maxRecDepth 65536 in
set_option maxHeartbeats 40000000 in
theorem own_rm_nbf3 (l : Launch) (Z : State) (a0 : Array Value) (hw : ∀ d ∈ tables_1, d.before a0 Z = true) (G1 : Int32) (S1 : Sta Z Z.heap "java/lang/String" "COMPACT_STRINGS" "Z" (.int G1)) (P1 : ¬ G1 = 0) (G3 : Value) (S3 : Sta Z Z.heap "jdk/internal/util/Preconditions" "SIOOBE_FORMATTER" "Ljava/util/function/BiFunction;" G3) (P3 : G3.isRef = true) (S4 : Sta Z Z.heap "java/lang/StringUTF16" "$assertionsDisabled" "Z" (.int (1 : Int32))) (S5 : Sta Z Z.heap "java/lang/StringUTF16" "HI_BYTE_SHIFT" "I" (.int (0 : Int32))) (S6 : Sta Z Z.heap "java/lang/StringUTF16" "LO_BYTE_SHIFT" "I" (.int (8 : Int32))) (ws : List Jvm.Cond) (h0 : Heap) (n0 : Nat) (Z0 : n0 ≤ h0.size) (XO : Old Z n0 h0) :
    own_Met l Z h0 (⟨"java/lang/StringUTF16", "newBytesFor", "(I)[B"⟩ : MethodName) jdk_52_method_2_code 1 (some (.array .byte)) ws { frames := 1, cells := 1, slots := 6, locals := 12 } #[(.int (3 : Int32))] (own_Q_nbf3 Z h0 n0) := by
  refine own_enter (plainFor_of_name own_pn2) (fun p e s m below meth c s₁ hx hby hlk hml hown hnm hret hZ X0 e0 => ?_)
  have N0 := Fr.nil n0
  refine own_st (S' := s₁.setTop (mkF m 0 #[.val (.int (3 : Int32))] [])) (fun _ k => castTop (own_ef_nbf3 m) k) ?_
  refine own_st (S' := s₁.setTop (mkF m 1 #[.val (.int (3 : Int32))] [(.int (3 : Int32))])) (fun _ k => XS.iloadN X0.here hx rfl (hb hby own_d_jdk_52_method_2_code_0) rfl k) ?_
  obtain ⟨_, _, ⟨T101, L101, k101, n101⟩, -, X101, ⟨Lc101, hQ101, l101, y101, z101⟩, st101⟩ := Jvm.LawKit.callS X0 hx (y := (⟨"java/lang/StringUTF16", "newBytesLength", "(I)I"⟩ : MethodName)) hown (mvT hZ (hw _ own_w82)) (mvT hZ (hw _ own_w83)) (mvT hZ (hw _ own_w22)) (mvT hZ (hw _ own_w84)) (by decide) (backOf (W := 0) (own_rm_nbl3 l Z a0 hw G1 S1 P1 G3 S3 P3 S4 S5 S6 []  h0 n0 (Nat.le_trans Z0 (Nat.le_refl _)) XO ) hZ (hw _ own_w84) (hw _ own_w22) (by decide) (by decide)) (g := (mkF m 1 #[.val (.int (3 : Int32))] [(.int (3 : Int32))])) rfl (by rw [hml]; rfl) (argsL := [(.int (3 : Int32))]) (rest := []) (lenOf own_pd6 rfl) rfl (by show 2 * 0 + _ ≤ _; exact Nat.le_of_eq rfl) (hb hby own_d_jdk_52_method_2_code_1) (fun _ _ => ⟨rfl, e0, (by decide : 0 + 0 ≤ _), (by decide : 0 + 0 ≤ _)⟩)
  dsimp only [Pt.U, Pt.locs, Pt.cells, Pt.slots] at X101 l101 y101 z101 st101 hQ101
  subst l101 y101 z101
  obtain ⟨rfl, M101, e101⟩ := hQ101
  have N101 := Fr.app N0 M101
  refine own_st (S' := T101.setTop (mkF m 4 #[.val (.int (3 : Int32))] [(.int (6 : Int32))])) st101 ?_
  obtain ⟨T102, h102, k102, X102, e102, E102, A102, AE102, st102⟩ := newPE X101 hx hZ (aty := .byte) (hw _ own_w24) e101 (g := (mkF m 4 #[.val (.int (3 : Int32))] [(.int (6 : Int32))])) rfl (hb hby own_d_jdk_52_method_2_code_4) rfl (by decide) (cap := 6) (by decide) (by decide) (by decide) (by decide) (ad := "[B") (by decide)
  obtain ⟨b102, g102⟩ : ∃ z, z = h0.size := ⟨_, rfl⟩
  rw [← g102] at A102 AE102 st102
  have V102 : Arv Z h102 b102 k102 .byte (6 : Int32) [(.int (0 : Int32)), (.int (0 : Int32)), (.int (0 : Int32)), (.int (0 : Int32)), (.int (0 : Int32)), (.int (0 : Int32))] (.int (0 : Int32)) := (Arv.new A102 (by decide)).pad (pad_rep [] (.int (0 : Int32)) 6)
  refine own_st (S' := T102.setTop (mkF m 6 #[.val (.int (3 : Int32))] [(.ref b102)])) st102 ?_
  refine own_ret X102 hx hret hlk rfl (Or.inr (Or.inr (Or.inr (Or.inr ⟨rfl, rfl, rfl⟩)))) (hb hby own_d_jdk_52_method_2_code_6) (by decide) (by decide) ?_
  rw [e102]
  exact ⟨b102, k102, rfl, N101, E102, (Nat.le_of_eq g102.symm), V102⟩
def own_Q_tob3 (Z : State) (c0 c1 c2 : Int32) (h0 : Heap) (n0 : Nat) (v : Option Value) (h : Heap) (L : List Loc) : Prop := ∃ (r : Addr) (k : ClassId), v = some (.ref r) ∧ Fr n0 L ∧ Ext h0 h ∧ h0.size ≤ r ∧ Arv Z h r k .byte (6 : Int32) [.int (StrChars.lo8 c0), .int (StrChars.hi8 c0), .int (StrChars.lo8 c1), .int (StrChars.hi8 c1), .int (StrChars.lo8 c2), .int (StrChars.hi8 c2)] (.int (0 : Int32))
theorem own_ef_tob3 (m : MethodId) (b0 : Addr) : entryFrame m #[(.ref b0), (.int (0 : Int32)), (.int (3 : Int32))] 5 = mkF m 0 #[.val (.ref b0), .val (.int (0 : Int32)), .val (.int (3 : Int32)), .unset, .unset] [] := by first | (simp [entryFrame, mkF, argsToLocals, Value.category, maxLocals]; done) | rfl
set_option maxRecDepth 65536 in
set_option maxHeartbeats 40000000 in
theorem own_rm_tob3 (l : Launch) (Z : State) (a0 : Array Value) (hw : ∀ d ∈ tables_1, d.before a0 Z = true) (G1 : Int32) (S1 : Sta Z Z.heap "java/lang/String" "COMPACT_STRINGS" "Z" (.int G1)) (P1 : ¬ G1 = 0) (G3 : Value) (S3 : Sta Z Z.heap "jdk/internal/util/Preconditions" "SIOOBE_FORMATTER" "Ljava/util/function/BiFunction;" G3) (P3 : G3.isRef = true) (S4 : Sta Z Z.heap "java/lang/StringUTF16" "$assertionsDisabled" "Z" (.int (1 : Int32))) (S5 : Sta Z Z.heap "java/lang/StringUTF16" "HI_BYTE_SHIFT" "I" (.int (0 : Int32))) (S6 : Sta Z Z.heap "java/lang/StringUTF16" "LO_BYTE_SHIFT" "I" (.int (8 : Int32))) (ws : List Jvm.Cond) (b0 : Addr) (kc : ClassId) (c0 c1 c2 : Int32) (h0 : Heap) (n0 : Nat) (Z0 : n0 ≤ h0.size) (XO : Old Z n0 h0) (V1 : Arv Z h0 b0 kc .char (3 : Int32) [.int c0, .int c1, .int c2] (.int (0 : Int32))) :
    own_Met l Z h0 (⟨"java/lang/StringUTF16", "toBytes", "([CII)[B"⟩ : MethodName) jdk_52_method_14_code 5 (some (.array .byte)) ws { frames := 2, cells := 1, slots := 6, locals := 24 } #[(.ref b0), (.int (0 : Int32)), (.int (3 : Int32))] (own_Q_tob3 Z c0 c1 c2 h0 n0) := by
  refine own_enter (plainFor_of_name own_pn2) (fun p e s m below meth c s₁ hx hby hlk hml hown hnm hret hZ X0 e0 => ?_)
  have N0 := Fr.nil n0
  refine own_st (S' := s₁.setTop (mkF m 0 #[.val (.ref b0), .val (.int (0 : Int32)), .val (.int (3 : Int32)), .unset, .unset] [])) (fun _ k => castTop (own_ef_tob3 m b0) k) ?_
  refine own_st (S' := s₁.setTop (mkF m 1 #[.val (.ref b0), .val (.int (0 : Int32)), .val (.int (3 : Int32)), .unset, .unset] [(.int (3 : Int32))])) (fun _ k => XS.iloadN X0.here hx rfl (hb hby own_d_jdk_52_method_14_code_0) rfl k) ?_
  obtain ⟨_, _, ⟨T101, L101, k101, n101⟩, -, X101, ⟨Lc101, hQ101, l101, y101, z101⟩, st101⟩ := Jvm.LawKit.callS X0 hx (y := (⟨"java/lang/StringUTF16", "newBytesFor", "(I)[B"⟩ : MethodName)) hown (mvT hZ (hw _ own_w79)) (mvT hZ (hw _ own_w80)) (mvT hZ (hw _ own_w22)) (mvT hZ (hw _ own_w81)) (by decide) (backOf (W := 0) (own_rm_nbf3 l Z a0 hw G1 S1 P1 G3 S3 P3 S4 S5 S6 []  h0 n0 (Nat.le_trans Z0 (Nat.le_refl _)) XO ) hZ (hw _ own_w81) (hw _ own_w22) (by decide) (by decide)) (g := (mkF m 1 #[.val (.ref b0), .val (.int (0 : Int32)), .val (.int (3 : Int32)), .unset, .unset] [(.int (3 : Int32))])) rfl (by rw [hml]; rfl) (argsL := [(.int (3 : Int32))]) (rest := []) (lenOf own_pd7 rfl) rfl (by show 2 * 0 + _ ≤ _; exact Nat.le_of_eq rfl) (hb hby own_d_jdk_52_method_14_code_1) (fun _ _ => ⟨rfl, e0, (by decide : 0 + 1 ≤ _), (by decide : 0 + 6 ≤ _)⟩)
  dsimp only [Pt.U, Pt.locs, Pt.cells, Pt.slots] at X101 l101 y101 z101 st101 hQ101
  subst l101 y101 z101
  obtain ⟨r101, kr101, rfl, M101, E101, g101, V101⟩ := hQ101
  have N101 := Fr.app N0 M101
  obtain ⟨h101, e101⟩ : ∃ z, T101.heap = z := ⟨_, rfl⟩
  rw [e101] at E101 V101
  refine own_st (S' := T101.setTop (mkF m 4 #[.val (.ref b0), .val (.int (0 : Int32)), .val (.int (3 : Int32)), .unset, .unset] [(.ref r101)])) st101 ?_
  refine own_st (S' := T101.setTop (mkF m 10 #[.val (.ref b0), .val (.int (0 : Int32)), .val (.int (3 : Int32)), .val (.ref r101), .val (.int (0 : Int32))] [(.int (0 : Int32))])) (fun _ k => XS.astoreN X101.here hx rfl (hb hby own_d_jdk_52_method_14_code_4) rfl rfl (l' := #[.val (.ref b0), .val (.int (0 : Int32)), .val (.int (3 : Int32)), .val (.ref r101), .unset]) rfl (XS.iconst X101.here hx rfl (hb hby own_d_jdk_52_method_14_code_5) (XS.istore X101.here hx rfl (hb hby own_d_jdk_52_method_14_code_6) rfl (l' := #[.val (.ref b0), .val (.int (0 : Int32)), .val (.int (3 : Int32)), .val (.ref r101), .val (.int (0 : Int32))]) rfl (XS.iload X101.here hx rfl (hb hby own_d_jdk_52_method_14_code_8) rfl k)))) ?_
  refine own_st (S' := T101.setTop (mkF m 17 #[.val (.ref b0), .val (.int (0 : Int32)), .val (.int (3 : Int32)), .val (.ref r101), .val (.int (0 : Int32))] [(.int (0 : Int32)), (.ref r101)])) (fun _ k => XS.iloadN X101.here hx rfl (hb hby own_d_jdk_52_method_14_code_10) rfl (XS.icmpNo X101.here hx rfl (hb hby own_d_jdk_52_method_14_code_11) rfl (by decide) (XS.aloadN X101.here hx rfl (hb hby own_d_jdk_52_method_14_code_14) rfl rfl (XS.iload X101.here hx rfl (hb hby own_d_jdk_52_method_14_code_15) rfl k)))) ?_
  refine own_st (S' := T101.setTop (mkF m 19 #[.val (.ref b0), .val (.int (0 : Int32)), .val (.int (3 : Int32)), .val (.ref r101), .val (.int (0 : Int32))] [(.int (0 : Int32)), (.ref b0), (.int (0 : Int32)), (.ref r101)])) (fun _ k => XS.aloadN X101.here hx rfl (hb hby own_d_jdk_52_method_14_code_17) rfl rfl (XS.iloadN X101.here hx rfl (hb hby own_d_jdk_52_method_14_code_18) rfl k)) ?_
  have V102 : Arv Z h101 b0 kc .char (3 : Int32) [(.int c0), (.int c1), (.int c2)] (.int (0 : Int32)) := (V1.ext E101)
  obtain ⟨c103, A103, q103, S103, M103, H103, U103⟩ := id V102
  have i103 := inb_of (j := (0 : Int32)) S103 ⟨by decide, by decide⟩
  refine own_st (S' := T101.setTop (mkF m 20 #[.val (.ref b0), .val (.int (0 : Int32)), .val (.int (3 : Int32)), .val (.ref r101), .val (.int (0 : Int32))] [(.int c0), (.int (0 : Int32)), (.ref r101)])) (X101.caload hx (j := (0 : Int32)) (v := (.int c0)) (by rw [e101]; exact A103.1) (State.isArrayOf_alike hZ.alike A103.2.1) A103.2.2 i103 (H103.at i103 rfl) (g := (mkF m 19 #[.val (.ref b0), .val (.int (0 : Int32)), .val (.int (3 : Int32)), .val (.ref r101), .val (.int (0 : Int32))] [(.int (0 : Int32)), (.ref b0), (.int (0 : Int32)), (.ref r101)])) rfl rfl (hb hby own_d_jdk_52_method_14_code_19)) ?_
  have XO104 : Old Z n0 h101 := (XO.ext E101)
  obtain ⟨_, _, ⟨T105, L105, k105, n105⟩, -, X105, ⟨Lc105, hQ105, l105, y105, z105⟩, st105⟩ := Jvm.LawKit.callS X101 hx (y := (⟨"java/lang/StringUTF16", "putChar", "([BII)V"⟩ : MethodName)) hown (mvT hZ (hw _ own_w86)) (mvT hZ (hw _ own_w87)) (mvT hZ (hw _ own_w22)) (mvT hZ (hw _ own_w88)) (by decide) (backOf (W := 0) (own_rm_putc l Z a0 hw G1 S1 P1 G3 S3 P3 S4 S5 S6 [] r101 (0 : Int32) c0 (0 : Int32) (6 : Int32) 0 kr101 [(.int (0 : Int32)), (.int (0 : Int32)), (.int (0 : Int32)), (.int (0 : Int32)), (.int (0 : Int32)), (.int (0 : Int32))] h101 n0 (Nat.le_trans Z0 E101.1) XO104 (Nat.le_trans Z0 g101) V101 (by decide) ⟨by decide, by decide⟩ ⟨by decide, by decide⟩ (by decide) (by decide) (Nat.le_of_ble_eq_true rfl)) hZ (hw _ own_w88) (hw _ own_w22) (by decide) (by decide)) (g := (mkF m 20 #[.val (.ref b0), .val (.int (0 : Int32)), .val (.int (3 : Int32)), .val (.ref r101), .val (.int (0 : Int32))] [(.int c0), (.int (0 : Int32)), (.ref r101)])) rfl (by rw [hml]; rfl) (argsL := [(.ref r101), (.int (0 : Int32)), (.int c0)]) (rest := []) (lenOf own_pd8 rfl) rfl (by show 2 * 0 + _ ≤ _; exact Nat.le_of_eq rfl) (hb hby own_d_jdk_52_method_14_code_20) (fun _ _ => ⟨rfl, e101, (by decide : 1 + 0 ≤ _), (by decide : 6 + 0 ≤ _)⟩)
  dsimp only [Pt.U, Pt.locs, Pt.cells, Pt.slots] at X105 l105 y105 z105 st105 hQ105
  subst l105 y105 z105
  obtain ⟨rfl, M105, K105, U105⟩ := hQ105
  have N105 := Fr.app N101 M105
  obtain ⟨h105, e105⟩ : ∃ z, T105.heap = z := ⟨_, rfl⟩
  rw [e105] at K105 U105
  have V105 : Arv Z h105 r101 kr101 .byte (6 : Int32) [(.int (StrChars.lo8 c0)), (.int (StrChars.hi8 c0)), (.int (0 : Int32)), (.int (0 : Int32)), (.int (0 : Int32)), (.int (0 : Int32))] (.int (0 : Int32)) := U105
  refine own_st (S' := T105.setTop (mkF m 23 #[.val (.ref b0), .val (.int (0 : Int32)), .val (.int (3 : Int32)), .val (.ref r101), .val (.int (0 : Int32))] [])) st105 ?_
  refine own_st (S' := T105.setTop (mkF m 10 #[.val (.ref b0), .val (.int (1 : Int32)), .val (.int (3 : Int32)), .val (.ref r101), .val (.int (1 : Int32))] [(.int (1 : Int32))])) (fun _ k => XS.iinc X105.here hx rfl (hb hby own_d_jdk_52_method_14_code_23) rfl (l' := #[.val (.ref b0), .val (.int (1 : Int32)), .val (.int (3 : Int32)), .val (.ref r101), .val (.int (0 : Int32))]) rfl (XS.iinc X105.here hx rfl (hb hby own_d_jdk_52_method_14_code_26) rfl (l' := #[.val (.ref b0), .val (.int (1 : Int32)), .val (.int (3 : Int32)), .val (.ref r101), .val (.int (1 : Int32))]) rfl (XS.goto X105.here hx rfl (pc0 := 29) (pc' := 8) rfl (hb hby own_d_jdk_52_method_14_code_29) (by decide) (by decide) (XS.iload X105.here hx rfl (hb hby own_d_jdk_52_method_14_code_8) rfl k)))) ?_
  refine own_st (S' := T105.setTop (mkF m 17 #[.val (.ref b0), .val (.int (1 : Int32)), .val (.int (3 : Int32)), .val (.ref r101), .val (.int (1 : Int32))] [(.int (1 : Int32)), (.ref r101)])) (fun _ k => XS.iloadN X105.here hx rfl (hb hby own_d_jdk_52_method_14_code_10) rfl (XS.icmpNo X105.here hx rfl (hb hby own_d_jdk_52_method_14_code_11) rfl (by decide) (XS.aloadN X105.here hx rfl (hb hby own_d_jdk_52_method_14_code_14) rfl rfl (XS.iload X105.here hx rfl (hb hby own_d_jdk_52_method_14_code_15) rfl k)))) ?_
  refine own_st (S' := T105.setTop (mkF m 19 #[.val (.ref b0), .val (.int (1 : Int32)), .val (.int (3 : Int32)), .val (.ref r101), .val (.int (1 : Int32))] [(.int (1 : Int32)), (.ref b0), (.int (1 : Int32)), (.ref r101)])) (fun _ k => XS.aloadN X105.here hx rfl (hb hby own_d_jdk_52_method_14_code_17) rfl rfl (XS.iloadN X105.here hx rfl (hb hby own_d_jdk_52_method_14_code_18) rfl k)) ?_
  have V106 : Arv Z h105 b0 kc .char (3 : Int32) [(.int c0), (.int c1), (.int c2)] (.int (0 : Int32)) := (V102.keep K105 (ninS (Nat.ne_of_lt (Nat.lt_of_lt_of_le V1.lt g101)) nin0))
  obtain ⟨c107, A107, q107, S107, M107, H107, U107⟩ := id V106
  have i107 := inb_of (j := (1 : Int32)) S107 ⟨by decide, by decide⟩
  refine own_st (S' := T105.setTop (mkF m 20 #[.val (.ref b0), .val (.int (1 : Int32)), .val (.int (3 : Int32)), .val (.ref r101), .val (.int (1 : Int32))] [(.int c1), (.int (1 : Int32)), (.ref r101)])) (X105.caload hx (j := (1 : Int32)) (v := (.int c1)) (by rw [e105]; exact A107.1) (State.isArrayOf_alike hZ.alike A107.2.1) A107.2.2 i107 (H107.at i107 rfl) (g := (mkF m 19 #[.val (.ref b0), .val (.int (1 : Int32)), .val (.int (3 : Int32)), .val (.ref r101), .val (.int (1 : Int32))] [(.int (1 : Int32)), (.ref b0), (.int (1 : Int32)), (.ref r101)])) rfl rfl (hb hby own_d_jdk_52_method_14_code_19)) ?_
  have XO108 : Old Z n0 h105 := (XO104.keep K105 (allS (Nat.le_trans Z0 g101) all0))
  obtain ⟨_, _, ⟨T109, L109, k109, n109⟩, -, X109, ⟨Lc109, hQ109, l109, y109, z109⟩, st109⟩ := Jvm.LawKit.callS X105 hx (y := (⟨"java/lang/StringUTF16", "putChar", "([BII)V"⟩ : MethodName)) hown (mvT hZ (hw _ own_w86)) (mvT hZ (hw _ own_w87)) (mvT hZ (hw _ own_w22)) (mvT hZ (hw _ own_w88)) (by decide) (backOf (W := 0) (own_rm_putc l Z a0 hw G1 S1 P1 G3 S3 P3 S4 S5 S6 [] r101 (1 : Int32) c1 (2 : Int32) (6 : Int32) 2 kr101 [(.int (StrChars.lo8 c0)), (.int (StrChars.hi8 c0)), (.int (0 : Int32)), (.int (0 : Int32)), (.int (0 : Int32)), (.int (0 : Int32))] h105 n0 (Nat.le_trans Z0 (Nat.le_trans E101.1 K105.1)) XO108 (Nat.le_trans Z0 g101) V105 (by decide) ⟨by decide, by decide⟩ ⟨by decide, by decide⟩ (by decide) (by decide) (Nat.le_of_ble_eq_true rfl)) hZ (hw _ own_w88) (hw _ own_w22) (by decide) (by decide)) (g := (mkF m 20 #[.val (.ref b0), .val (.int (1 : Int32)), .val (.int (3 : Int32)), .val (.ref r101), .val (.int (1 : Int32))] [(.int c1), (.int (1 : Int32)), (.ref r101)])) rfl (by rw [hml]; rfl) (argsL := [(.ref r101), (.int (1 : Int32)), (.int c1)]) (rest := []) (lenOf own_pd8 rfl) rfl (by show 2 * 0 + _ ≤ _; exact Nat.le_of_eq rfl) (hb hby own_d_jdk_52_method_14_code_20) (fun _ _ => ⟨rfl, e105, (by decide : 1 + 0 ≤ _), (by decide : 6 + 0 ≤ _)⟩)
  dsimp only [Pt.U, Pt.locs, Pt.cells, Pt.slots] at X109 l109 y109 z109 st109 hQ109
  subst l109 y109 z109
  obtain ⟨rfl, M109, K109, U109⟩ := hQ109
  have N109 := Fr.app N105 M109
  obtain ⟨h109, e109⟩ : ∃ z, T109.heap = z := ⟨_, rfl⟩
  rw [e109] at K109 U109
  have V109 : Arv Z h109 r101 kr101 .byte (6 : Int32) [(.int (StrChars.lo8 c0)), (.int (StrChars.hi8 c0)), (.int (StrChars.lo8 c1)), (.int (StrChars.hi8 c1)), (.int (0 : Int32)), (.int (0 : Int32))] (.int (0 : Int32)) := U109
  refine own_st (S' := T109.setTop (mkF m 23 #[.val (.ref b0), .val (.int (1 : Int32)), .val (.int (3 : Int32)), .val (.ref r101), .val (.int (1 : Int32))] [])) st109 ?_
  refine own_st (S' := T109.setTop (mkF m 10 #[.val (.ref b0), .val (.int (2 : Int32)), .val (.int (3 : Int32)), .val (.ref r101), .val (.int (2 : Int32))] [(.int (2 : Int32))])) (fun _ k => XS.iinc X109.here hx rfl (hb hby own_d_jdk_52_method_14_code_23) rfl (l' := #[.val (.ref b0), .val (.int (2 : Int32)), .val (.int (3 : Int32)), .val (.ref r101), .val (.int (1 : Int32))]) rfl (XS.iinc X109.here hx rfl (hb hby own_d_jdk_52_method_14_code_26) rfl (l' := #[.val (.ref b0), .val (.int (2 : Int32)), .val (.int (3 : Int32)), .val (.ref r101), .val (.int (2 : Int32))]) rfl (XS.goto X109.here hx rfl (pc0 := 29) (pc' := 8) rfl (hb hby own_d_jdk_52_method_14_code_29) (by decide) (by decide) (XS.iload X109.here hx rfl (hb hby own_d_jdk_52_method_14_code_8) rfl k)))) ?_
  refine own_st (S' := T109.setTop (mkF m 17 #[.val (.ref b0), .val (.int (2 : Int32)), .val (.int (3 : Int32)), .val (.ref r101), .val (.int (2 : Int32))] [(.int (2 : Int32)), (.ref r101)])) (fun _ k => XS.iloadN X109.here hx rfl (hb hby own_d_jdk_52_method_14_code_10) rfl (XS.icmpNo X109.here hx rfl (hb hby own_d_jdk_52_method_14_code_11) rfl (by decide) (XS.aloadN X109.here hx rfl (hb hby own_d_jdk_52_method_14_code_14) rfl rfl (XS.iload X109.here hx rfl (hb hby own_d_jdk_52_method_14_code_15) rfl k)))) ?_
  refine own_st (S' := T109.setTop (mkF m 19 #[.val (.ref b0), .val (.int (2 : Int32)), .val (.int (3 : Int32)), .val (.ref r101), .val (.int (2 : Int32))] [(.int (2 : Int32)), (.ref b0), (.int (2 : Int32)), (.ref r101)])) (fun _ k => XS.aloadN X109.here hx rfl (hb hby own_d_jdk_52_method_14_code_17) rfl rfl (XS.iloadN X109.here hx rfl (hb hby own_d_jdk_52_method_14_code_18) rfl k)) ?_
  have V110 : Arv Z h109 b0 kc .char (3 : Int32) [(.int c0), (.int c1), (.int c2)] (.int (0 : Int32)) := (V106.keep K109 (ninS (Nat.ne_of_lt (Nat.lt_of_lt_of_le V1.lt g101)) nin0))
  obtain ⟨c111, A111, q111, S111, M111, H111, U111⟩ := id V110
  have i111 := inb_of (j := (2 : Int32)) S111 ⟨by decide, by decide⟩
  refine own_st (S' := T109.setTop (mkF m 20 #[.val (.ref b0), .val (.int (2 : Int32)), .val (.int (3 : Int32)), .val (.ref r101), .val (.int (2 : Int32))] [(.int c2), (.int (2 : Int32)), (.ref r101)])) (X109.caload hx (j := (2 : Int32)) (v := (.int c2)) (by rw [e109]; exact A111.1) (State.isArrayOf_alike hZ.alike A111.2.1) A111.2.2 i111 (H111.at i111 rfl) (g := (mkF m 19 #[.val (.ref b0), .val (.int (2 : Int32)), .val (.int (3 : Int32)), .val (.ref r101), .val (.int (2 : Int32))] [(.int (2 : Int32)), (.ref b0), (.int (2 : Int32)), (.ref r101)])) rfl rfl (hb hby own_d_jdk_52_method_14_code_19)) ?_
  have XO112 : Old Z n0 h109 := (XO108.keep K109 (allS (Nat.le_trans Z0 g101) all0))
  obtain ⟨_, _, ⟨T113, L113, k113, n113⟩, -, X113, ⟨Lc113, hQ113, l113, y113, z113⟩, st113⟩ := Jvm.LawKit.callS X109 hx (y := (⟨"java/lang/StringUTF16", "putChar", "([BII)V"⟩ : MethodName)) hown (mvT hZ (hw _ own_w86)) (mvT hZ (hw _ own_w87)) (mvT hZ (hw _ own_w22)) (mvT hZ (hw _ own_w88)) (by decide) (backOf (W := 0) (own_rm_putc l Z a0 hw G1 S1 P1 G3 S3 P3 S4 S5 S6 [] r101 (2 : Int32) c2 (4 : Int32) (6 : Int32) 4 kr101 [(.int (StrChars.lo8 c0)), (.int (StrChars.hi8 c0)), (.int (StrChars.lo8 c1)), (.int (StrChars.hi8 c1)), (.int (0 : Int32)), (.int (0 : Int32))] h109 n0 (Nat.le_trans Z0 (Nat.le_trans (Nat.le_trans E101.1 K105.1) K109.1)) XO112 (Nat.le_trans Z0 g101) V109 (by decide) ⟨by decide, by decide⟩ ⟨by decide, by decide⟩ (by decide) (by decide) (Nat.le_of_ble_eq_true rfl)) hZ (hw _ own_w88) (hw _ own_w22) (by decide) (by decide)) (g := (mkF m 20 #[.val (.ref b0), .val (.int (2 : Int32)), .val (.int (3 : Int32)), .val (.ref r101), .val (.int (2 : Int32))] [(.int c2), (.int (2 : Int32)), (.ref r101)])) rfl (by rw [hml]; rfl) (argsL := [(.ref r101), (.int (2 : Int32)), (.int c2)]) (rest := []) (lenOf own_pd8 rfl) rfl (by show 2 * 0 + _ ≤ _; exact Nat.le_of_eq rfl) (hb hby own_d_jdk_52_method_14_code_20) (fun _ _ => ⟨rfl, e109, (by decide : 1 + 0 ≤ _), (by decide : 6 + 0 ≤ _)⟩)
  dsimp only [Pt.U, Pt.locs, Pt.cells, Pt.slots] at X113 l113 y113 z113 st113 hQ113
  subst l113 y113 z113
  obtain ⟨rfl, M113, K113, U113⟩ := hQ113
  have N113 := Fr.app N109 M113
  obtain ⟨h113, e113⟩ : ∃ z, T113.heap = z := ⟨_, rfl⟩
  rw [e113] at K113 U113
  have V113 : Arv Z h113 r101 kr101 .byte (6 : Int32) [(.int (StrChars.lo8 c0)), (.int (StrChars.hi8 c0)), (.int (StrChars.lo8 c1)), (.int (StrChars.hi8 c1)), (.int (StrChars.lo8 c2)), (.int (StrChars.hi8 c2))] (.int (0 : Int32)) := U113
  refine own_st (S' := T113.setTop (mkF m 23 #[.val (.ref b0), .val (.int (2 : Int32)), .val (.int (3 : Int32)), .val (.ref r101), .val (.int (2 : Int32))] [])) st113 ?_
  refine own_st (S' := T113.setTop (mkF m 10 #[.val (.ref b0), .val (.int (3 : Int32)), .val (.int (3 : Int32)), .val (.ref r101), .val (.int (3 : Int32))] [(.int (3 : Int32))])) (fun _ k => XS.iinc X113.here hx rfl (hb hby own_d_jdk_52_method_14_code_23) rfl (l' := #[.val (.ref b0), .val (.int (3 : Int32)), .val (.int (3 : Int32)), .val (.ref r101), .val (.int (2 : Int32))]) rfl (XS.iinc X113.here hx rfl (hb hby own_d_jdk_52_method_14_code_26) rfl (l' := #[.val (.ref b0), .val (.int (3 : Int32)), .val (.int (3 : Int32)), .val (.ref r101), .val (.int (3 : Int32))]) rfl (XS.goto X113.here hx rfl (pc0 := 29) (pc' := 8) rfl (hb hby own_d_jdk_52_method_14_code_29) (by decide) (by decide) (XS.iload X113.here hx rfl (hb hby own_d_jdk_52_method_14_code_8) rfl k)))) ?_
  refine own_st (S' := T113.setTop (mkF m 33 #[.val (.ref b0), .val (.int (3 : Int32)), .val (.int (3 : Int32)), .val (.ref r101), .val (.int (3 : Int32))] [(.ref r101)])) (fun _ k => XS.iloadN X113.here hx rfl (hb hby own_d_jdk_52_method_14_code_10) rfl (XS.icmpYes X113.here hx rfl (pc0 := 11) (pc' := 32) rfl (hb hby own_d_jdk_52_method_14_code_11) rfl (by decide) (by decide) (by decide) (XS.aloadN X113.here hx rfl (hb hby own_d_jdk_52_method_14_code_32) rfl rfl k))) ?_
  have XE114 : Ext h0 h113 := (own_xk (own_xk (own_xk E101 K105 (allS g101 all0)) K109 (allS g101 all0)) K113 (allS g101 all0))
  refine own_ret X113 hx hret hlk rfl (Or.inr (Or.inr (Or.inr (Or.inr ⟨rfl, rfl, rfl⟩)))) (hb hby own_d_jdk_52_method_14_code_33) (by decide) (by decide) ?_
  rw [e113]
  exact ⟨r101, kr101, rfl, N113, XE114, g101, V113⟩
def own_Q_cm53 (Z : State) (d0 : Addr) (k0 : ClassId) (c0 c1 c2 : Int32) (h0 : Heap) (n0 : Nat) (v : Option Value) (h : Heap) (L : List Loc) : Prop := Fr n0 L ∧ Keep h0 h [d0] ∧ ((v = some (.int 3) ∧ (¬ ((255 : Int32) < c0) ∧ ¬ ((255 : Int32) < c1) ∧ ¬ ((255 : Int32) < c2)) ∧ Arv Z h d0 k0 .byte (3 : Int32) [.int (StrChars.lo8 c0), .int (StrChars.lo8 c1), .int (StrChars.lo8 c2)] (.int (0 : Int32))) ∨ ∃ j : Nat, j < 3 ∧ v = some (.int (Int32.ofNat j)) ∧ (255 : Int32) < [c0, c1, c2].getD j 0)
theorem own_ef_cm53 (m : MethodId) (b0 : Addr) (d0 : Addr) : entryFrame m #[(.ref b0), (.int (0 : Int32)), (.ref d0), (.int (0 : Int32)), (.int (3 : Int32))] 7 = mkF m 0 #[.val (.ref b0), .val (.int (0 : Int32)), .val (.ref d0), .val (.int (0 : Int32)), .val (.int (3 : Int32)), .unset, .unset] [] := by first | (simp [entryFrame, mkF, argsToLocals, Value.category, maxLocals]; done) | rfl
set_option maxRecDepth 65536 in
set_option maxHeartbeats 40000000 in
theorem own_rm_cm53 (l : Launch) (Z : State) (a0 : Array Value) (hw : ∀ d ∈ tables_1, d.before a0 Z = true) (G1 : Int32) (S1 : Sta Z Z.heap "java/lang/String" "COMPACT_STRINGS" "Z" (.int G1)) (P1 : ¬ G1 = 0) (G3 : Value) (S3 : Sta Z Z.heap "jdk/internal/util/Preconditions" "SIOOBE_FORMATTER" "Ljava/util/function/BiFunction;" G3) (P3 : G3.isRef = true) (S4 : Sta Z Z.heap "java/lang/StringUTF16" "$assertionsDisabled" "Z" (.int (1 : Int32))) (S5 : Sta Z Z.heap "java/lang/StringUTF16" "HI_BYTE_SHIFT" "I" (.int (0 : Int32))) (S6 : Sta Z Z.heap "java/lang/StringUTF16" "LO_BYTE_SHIFT" "I" (.int (8 : Int32))) (ws : List Jvm.Cond) (b0 d0 : Addr) (kc k0 : ClassId) (c0 c1 c2 : Int32) (h0 : Heap) (n0 : Nat) (Z0 : n0 ≤ h0.size) (XO : Old Z n0 h0) (g0 : n0 ≤ d0) (hbd : b0 ≠ d0) (V1 : Arv Z h0 b0 kc .char (3 : Int32) [.int c0, .int c1, .int c2] (.int (0 : Int32))) (V2 : Arv Z h0 d0 k0 .byte (3 : Int32) [(.int (0 : Int32)), (.int (0 : Int32)), (.int (0 : Int32))] (.int (0 : Int32))) :
    own_Met l Z h0 (⟨"java/lang/StringUTF16", "compress", "([CI[BII)I"⟩ : MethodName) jdk_52_method_21_code 7 (some .int) ws { frames := 0, cells := 0, slots := 0, locals := 0 } #[(.ref b0), (.int (0 : Int32)), (.ref d0), (.int (0 : Int32)), (.int (3 : Int32))] (own_Q_cm53 Z d0 k0 c0 c1 c2 h0 n0) := by
  refine own_enter (plainFor_of_name own_pn2) (fun p e s m below meth c s₁ hx hby hlk hml hown hnm hret hZ X0 e0 => ?_)
  have N0 := Fr.nil n0
  refine own_st (S' := s₁.setTop (mkF m 0 #[.val (.ref b0), .val (.int (0 : Int32)), .val (.ref d0), .val (.int (0 : Int32)), .val (.int (3 : Int32)), .unset, .unset] [])) (fun _ k => castTop (own_ef_cm53 m b0 d0) k) ?_
  refine own_st (S' := s₁.setTop (mkF m 7 #[.val (.ref b0), .val (.int (0 : Int32)), .val (.ref d0), .val (.int (0 : Int32)), .val (.int (3 : Int32)), .val (.int (0 : Int32)), .unset] [(.int (3 : Int32)), (.int (0 : Int32))])) (fun _ k => XS.iconst X0.here hx rfl (hb hby own_d_jdk_52_method_21_code_0) (XS.istore X0.here hx rfl (hb hby own_d_jdk_52_method_21_code_1) rfl (l' := #[.val (.ref b0), .val (.int (0 : Int32)), .val (.ref d0), .val (.int (0 : Int32)), .val (.int (3 : Int32)), .val (.int (0 : Int32)), .unset]) rfl (XS.iload X0.here hx rfl (hb hby own_d_jdk_52_method_21_code_3) rfl (XS.iload X0.here hx rfl (hb hby own_d_jdk_52_method_21_code_5) rfl k)))) ?_
  refine own_st (S' := s₁.setTop (mkF m 12 #[.val (.ref b0), .val (.int (0 : Int32)), .val (.ref d0), .val (.int (0 : Int32)), .val (.int (3 : Int32)), .val (.int (0 : Int32)), .unset] [(.int (0 : Int32)), (.ref b0)])) (fun _ k => XS.icmpNo X0.here hx rfl (hb hby own_d_jdk_52_method_21_code_7) rfl (by decide) (XS.aloadN X0.here hx rfl (hb hby own_d_jdk_52_method_21_code_10) rfl rfl (XS.iloadN X0.here hx rfl (hb hby own_d_jdk_52_method_21_code_11) rfl k))) ?_
  obtain ⟨c101, A101, q101, S101, M101, H101, U101⟩ := id V1
  have i101 := inb_of (j := (0 : Int32)) S101 ⟨by decide, by decide⟩
  refine own_st (S' := s₁.setTop (mkF m 13 #[.val (.ref b0), .val (.int (0 : Int32)), .val (.ref d0), .val (.int (0 : Int32)), .val (.int (3 : Int32)), .val (.int (0 : Int32)), .unset] [(.int c0)])) (X0.caload hx (j := (0 : Int32)) (v := (.int c0)) (by rw [e0]; exact A101.1) (State.isArrayOf_alike hZ.alike A101.2.1) A101.2.2 i101 (H101.at i101 rfl) (g := (mkF m 12 #[.val (.ref b0), .val (.int (0 : Int32)), .val (.ref d0), .val (.int (0 : Int32)), .val (.int (3 : Int32)), .val (.int (0 : Int32)), .unset] [(.int (0 : Int32)), (.ref b0)])) rfl rfl (hb hby own_d_jdk_52_method_21_code_12)) ?_
  refine own_st (S' := s₁.setTop (mkF m 20 #[.val (.ref b0), .val (.int (0 : Int32)), .val (.ref d0), .val (.int (0 : Int32)), .val (.int (3 : Int32)), .val (.int (0 : Int32)), .val (.int c0)] [(.int (255 : Int32)), (.int c0)])) (fun _ k => XS.istore X0.here hx rfl (hb hby own_d_jdk_52_method_21_code_13) rfl (l' := #[.val (.ref b0), .val (.int (0 : Int32)), .val (.ref d0), .val (.int (0 : Int32)), .val (.int (3 : Int32)), .val (.int (0 : Int32)), .val (.int c0)]) rfl (XS.iload X0.here hx rfl (hb hby own_d_jdk_52_method_21_code_15) rfl (XS.sipush X0.here hx rfl (hb hby own_d_jdk_52_method_21_code_17) k))) ?_
  by_cases hc102 : (255 : Int32) < c0
  · refine own_st (S' := s₁.setTop (mkF m 25 #[.val (.ref b0), .val (.int (0 : Int32)), .val (.ref d0), .val (.int (0 : Int32)), .val (.int (3 : Int32)), .val (.int (0 : Int32)), .val (.int c0)] [(.int (0 : Int32))])) (fun _ k => XS.icmpNo X0.here hx rfl (hb hby own_d_jdk_52_method_21_code_20) rfl (tlt hc102).2.2.2 (XS.iload X0.here hx rfl (hb hby own_d_jdk_52_method_21_code_23) rfl k)) ?_
    refine own_ret X0 hx hret hlk rfl (Or.inl ⟨rfl, (by simp), _, rfl⟩) (hb hby own_d_jdk_52_method_21_code_25) (by decide) (by decide) ?_
    rw [e0]
    exact ⟨N0, (Keep.refl _ _), Or.inr ⟨0, by decide, rfl, hc102⟩⟩
  · refine own_st (S' := s₁.setTop (mkF m 30 #[.val (.ref b0), .val (.int (0 : Int32)), .val (.ref d0), .val (.int (0 : Int32)), .val (.int (3 : Int32)), .val (.int (0 : Int32)), .val (.int c0)] [(.int c0), (.int (0 : Int32)), (.ref d0)])) (fun _ k => XS.icmpYes X0.here hx rfl (pc0 := 20) (pc' := 26) rfl (hb hby own_d_jdk_52_method_21_code_20) rfl (flt hc102).2.2.2 (by decide) (by decide) (XS.aloadN X0.here hx rfl (hb hby own_d_jdk_52_method_21_code_26) rfl rfl (XS.iloadN X0.here hx rfl (hb hby own_d_jdk_52_method_21_code_27) rfl (XS.iload X0.here hx rfl (hb hby own_d_jdk_52_method_21_code_28) rfl k)))) ?_
    refine own_st (S' := s₁.setTop (mkF m 31 #[.val (.ref b0), .val (.int (0 : Int32)), .val (.ref d0), .val (.int (0 : Int32)), .val (.int (3 : Int32)), .val (.int (0 : Int32)), .val (.int c0)] [(.int (c0.toInt8.toInt32)), (.int (0 : Int32)), (.ref d0)])) (fun _ k => XS.i2b X0.here hx rfl (hb hby own_d_jdk_52_method_21_code_30) rfl k) ?_
    obtain ⟨c103, A103, q103, S103, M103, H103, U103⟩ := id V2
    obtain ⟨T103, h103, X103, e103, W103, st103⟩ := stB X0 hx hZ e0 A103 (j := (0 : Int32)) (inb_of S103 ⟨by decide, by decide⟩) (g := (mkF m 31 #[.val (.ref b0), .val (.int (0 : Int32)), .val (.ref d0), .val (.int (0 : Int32)), .val (.int (3 : Int32)), .val (.int (0 : Int32)), .val (.int c0)] [(.int (c0.toInt8.toInt32)), (.int (0 : Int32)), (.ref d0)])) rfl rfl (hb hby own_d_jdk_52_method_21_code_31)
    have N103 := Fr.snoc X103 N0 g0
    have V103 : Arv Z h103 d0 k0 .byte (3 : Int32) [(.int (nar .byte (c0.toInt8.toInt32))), (.int (0 : Int32)), (.int (0 : Int32))] (.int (0 : Int32)) := Arv.set A103 q103 S103 M103 H103 U103 (fits_nar_byte _) W103 0 rfl (Nat.le_of_ble_eq_true rfl)
    refine own_st (S' := T103.setTop (mkF m 32 #[.val (.ref b0), .val (.int (0 : Int32)), .val (.ref d0), .val (.int (0 : Int32)), .val (.int (3 : Int32)), .val (.int (0 : Int32)), .val (.int c0)] [])) st103 ?_
    refine own_st (S' := T103.setTop (mkF m 3 #[.val (.ref b0), .val (.int (1 : Int32)), .val (.ref d0), .val (.int (1 : Int32)), .val (.int (3 : Int32)), .val (.int (1 : Int32)), .val (.int c0)] [])) (fun _ k => XS.iinc X103.here hx rfl (hb hby own_d_jdk_52_method_21_code_32) rfl (l' := #[.val (.ref b0), .val (.int (1 : Int32)), .val (.ref d0), .val (.int (0 : Int32)), .val (.int (3 : Int32)), .val (.int (0 : Int32)), .val (.int c0)]) rfl (XS.iinc X103.here hx rfl (hb hby own_d_jdk_52_method_21_code_35) rfl (l' := #[.val (.ref b0), .val (.int (1 : Int32)), .val (.ref d0), .val (.int (1 : Int32)), .val (.int (3 : Int32)), .val (.int (0 : Int32)), .val (.int c0)]) rfl (XS.iinc X103.here hx rfl (hb hby own_d_jdk_52_method_21_code_38) rfl (l' := #[.val (.ref b0), .val (.int (1 : Int32)), .val (.ref d0), .val (.int (1 : Int32)), .val (.int (3 : Int32)), .val (.int (1 : Int32)), .val (.int c0)]) rfl (XS.goto X103.here hx rfl (pc0 := 41) (pc' := 3) rfl (hb hby own_d_jdk_52_method_21_code_41) (by decide) (by decide) k)))) ?_
    refine own_st (S' := T103.setTop (mkF m 11 #[.val (.ref b0), .val (.int (1 : Int32)), .val (.ref d0), .val (.int (1 : Int32)), .val (.int (3 : Int32)), .val (.int (1 : Int32)), .val (.int c0)] [(.ref b0)])) (fun _ k => XS.iload X103.here hx rfl (hb hby own_d_jdk_52_method_21_code_3) rfl (XS.iload X103.here hx rfl (hb hby own_d_jdk_52_method_21_code_5) rfl (XS.icmpNo X103.here hx rfl (hb hby own_d_jdk_52_method_21_code_7) rfl (by decide) (XS.aloadN X103.here hx rfl (hb hby own_d_jdk_52_method_21_code_10) rfl rfl k)))) ?_
    refine own_st (S' := T103.setTop (mkF m 12 #[.val (.ref b0), .val (.int (1 : Int32)), .val (.ref d0), .val (.int (1 : Int32)), .val (.int (3 : Int32)), .val (.int (1 : Int32)), .val (.int c0)] [(.int (1 : Int32)), (.ref b0)])) (fun _ k => XS.iloadN X103.here hx rfl (hb hby own_d_jdk_52_method_21_code_11) rfl k) ?_
    have V104 : Arv Z h103 b0 kc .char (3 : Int32) [(.int c0), (.int c1), (.int c2)] (.int (0 : Int32)) := (V1.other W103 hbd)
    obtain ⟨c105, A105, q105, S105, M105, H105, U105⟩ := id V104
    have i105 := inb_of (j := (1 : Int32)) S105 ⟨by decide, by decide⟩
    refine own_st (S' := T103.setTop (mkF m 13 #[.val (.ref b0), .val (.int (1 : Int32)), .val (.ref d0), .val (.int (1 : Int32)), .val (.int (3 : Int32)), .val (.int (1 : Int32)), .val (.int c0)] [(.int c1)])) (X103.caload hx (j := (1 : Int32)) (v := (.int c1)) (by rw [e103]; exact A105.1) (State.isArrayOf_alike hZ.alike A105.2.1) A105.2.2 i105 (H105.at i105 rfl) (g := (mkF m 12 #[.val (.ref b0), .val (.int (1 : Int32)), .val (.ref d0), .val (.int (1 : Int32)), .val (.int (3 : Int32)), .val (.int (1 : Int32)), .val (.int c0)] [(.int (1 : Int32)), (.ref b0)])) rfl rfl (hb hby own_d_jdk_52_method_21_code_12)) ?_
    refine own_st (S' := T103.setTop (mkF m 20 #[.val (.ref b0), .val (.int (1 : Int32)), .val (.ref d0), .val (.int (1 : Int32)), .val (.int (3 : Int32)), .val (.int (1 : Int32)), .val (.int c1)] [(.int (255 : Int32)), (.int c1)])) (fun _ k => XS.istore X103.here hx rfl (hb hby own_d_jdk_52_method_21_code_13) rfl (l' := #[.val (.ref b0), .val (.int (1 : Int32)), .val (.ref d0), .val (.int (1 : Int32)), .val (.int (3 : Int32)), .val (.int (1 : Int32)), .val (.int c1)]) rfl (XS.iload X103.here hx rfl (hb hby own_d_jdk_52_method_21_code_15) rfl (XS.sipush X103.here hx rfl (hb hby own_d_jdk_52_method_21_code_17) k))) ?_
    by_cases hc106 : (255 : Int32) < c1
    · refine own_st (S' := T103.setTop (mkF m 25 #[.val (.ref b0), .val (.int (1 : Int32)), .val (.ref d0), .val (.int (1 : Int32)), .val (.int (3 : Int32)), .val (.int (1 : Int32)), .val (.int c1)] [(.int (1 : Int32))])) (fun _ k => XS.icmpNo X103.here hx rfl (hb hby own_d_jdk_52_method_21_code_20) rfl (tlt hc106).2.2.2 (XS.iload X103.here hx rfl (hb hby own_d_jdk_52_method_21_code_23) rfl k)) ?_
      refine own_ret X103 hx hret hlk rfl (Or.inl ⟨rfl, (by simp), _, rfl⟩) (hb hby own_d_jdk_52_method_21_code_25) (by decide) (by decide) ?_
      rw [e103]
      exact ⟨N103, ((Keep.refl _ _).wr W103 (Or.inl (List.mem_of_getElem? (i := 0) rfl))), Or.inr ⟨1, by decide, rfl, hc106⟩⟩
    · refine own_st (S' := T103.setTop (mkF m 30 #[.val (.ref b0), .val (.int (1 : Int32)), .val (.ref d0), .val (.int (1 : Int32)), .val (.int (3 : Int32)), .val (.int (1 : Int32)), .val (.int c1)] [(.int c1), (.int (1 : Int32)), (.ref d0)])) (fun _ k => XS.icmpYes X103.here hx rfl (pc0 := 20) (pc' := 26) rfl (hb hby own_d_jdk_52_method_21_code_20) rfl (flt hc106).2.2.2 (by decide) (by decide) (XS.aloadN X103.here hx rfl (hb hby own_d_jdk_52_method_21_code_26) rfl rfl (XS.iloadN X103.here hx rfl (hb hby own_d_jdk_52_method_21_code_27) rfl (XS.iload X103.here hx rfl (hb hby own_d_jdk_52_method_21_code_28) rfl k)))) ?_
      refine own_st (S' := T103.setTop (mkF m 31 #[.val (.ref b0), .val (.int (1 : Int32)), .val (.ref d0), .val (.int (1 : Int32)), .val (.int (3 : Int32)), .val (.int (1 : Int32)), .val (.int c1)] [(.int (c1.toInt8.toInt32)), (.int (1 : Int32)), (.ref d0)])) (fun _ k => XS.i2b X103.here hx rfl (hb hby own_d_jdk_52_method_21_code_30) rfl k) ?_
      obtain ⟨c107, A107, q107, S107, M107, H107, U107⟩ := id V103
      obtain ⟨T107, h107, X107, e107, W107, st107⟩ := stB X103 hx hZ e103 A107 (j := (1 : Int32)) (inb_of S107 ⟨by decide, by decide⟩) (g := (mkF m 31 #[.val (.ref b0), .val (.int (1 : Int32)), .val (.ref d0), .val (.int (1 : Int32)), .val (.int (3 : Int32)), .val (.int (1 : Int32)), .val (.int c1)] [(.int (c1.toInt8.toInt32)), (.int (1 : Int32)), (.ref d0)])) rfl rfl (hb hby own_d_jdk_52_method_21_code_31)
      have N107 := Fr.snoc X107 N103 g0
      have V107 : Arv Z h107 d0 k0 .byte (3 : Int32) [(.int (nar .byte (c0.toInt8.toInt32))), (.int (nar .byte (c1.toInt8.toInt32))), (.int (0 : Int32))] (.int (0 : Int32)) := Arv.set A107 q107 S107 M107 H107 U107 (fits_nar_byte _) W107 1 rfl (Nat.le_of_ble_eq_true rfl)
      refine own_st (S' := T107.setTop (mkF m 32 #[.val (.ref b0), .val (.int (1 : Int32)), .val (.ref d0), .val (.int (1 : Int32)), .val (.int (3 : Int32)), .val (.int (1 : Int32)), .val (.int c1)] [])) st107 ?_
      refine own_st (S' := T107.setTop (mkF m 3 #[.val (.ref b0), .val (.int (2 : Int32)), .val (.ref d0), .val (.int (2 : Int32)), .val (.int (3 : Int32)), .val (.int (2 : Int32)), .val (.int c1)] [])) (fun _ k => XS.iinc X107.here hx rfl (hb hby own_d_jdk_52_method_21_code_32) rfl (l' := #[.val (.ref b0), .val (.int (2 : Int32)), .val (.ref d0), .val (.int (1 : Int32)), .val (.int (3 : Int32)), .val (.int (1 : Int32)), .val (.int c1)]) rfl (XS.iinc X107.here hx rfl (hb hby own_d_jdk_52_method_21_code_35) rfl (l' := #[.val (.ref b0), .val (.int (2 : Int32)), .val (.ref d0), .val (.int (2 : Int32)), .val (.int (3 : Int32)), .val (.int (1 : Int32)), .val (.int c1)]) rfl (XS.iinc X107.here hx rfl (hb hby own_d_jdk_52_method_21_code_38) rfl (l' := #[.val (.ref b0), .val (.int (2 : Int32)), .val (.ref d0), .val (.int (2 : Int32)), .val (.int (3 : Int32)), .val (.int (2 : Int32)), .val (.int c1)]) rfl (XS.goto X107.here hx rfl (pc0 := 41) (pc' := 3) rfl (hb hby own_d_jdk_52_method_21_code_41) (by decide) (by decide) k)))) ?_
      refine own_st (S' := T107.setTop (mkF m 11 #[.val (.ref b0), .val (.int (2 : Int32)), .val (.ref d0), .val (.int (2 : Int32)), .val (.int (3 : Int32)), .val (.int (2 : Int32)), .val (.int c1)] [(.ref b0)])) (fun _ k => XS.iload X107.here hx rfl (hb hby own_d_jdk_52_method_21_code_3) rfl (XS.iload X107.here hx rfl (hb hby own_d_jdk_52_method_21_code_5) rfl (XS.icmpNo X107.here hx rfl (hb hby own_d_jdk_52_method_21_code_7) rfl (by decide) (XS.aloadN X107.here hx rfl (hb hby own_d_jdk_52_method_21_code_10) rfl rfl k)))) ?_
      refine own_st (S' := T107.setTop (mkF m 12 #[.val (.ref b0), .val (.int (2 : Int32)), .val (.ref d0), .val (.int (2 : Int32)), .val (.int (3 : Int32)), .val (.int (2 : Int32)), .val (.int c1)] [(.int (2 : Int32)), (.ref b0)])) (fun _ k => XS.iloadN X107.here hx rfl (hb hby own_d_jdk_52_method_21_code_11) rfl k) ?_
      have V108 : Arv Z h107 b0 kc .char (3 : Int32) [(.int c0), (.int c1), (.int c2)] (.int (0 : Int32)) := (V104.other W107 hbd)
      obtain ⟨c109, A109, q109, S109, M109, H109, U109⟩ := id V108
      have i109 := inb_of (j := (2 : Int32)) S109 ⟨by decide, by decide⟩
      refine own_st (S' := T107.setTop (mkF m 13 #[.val (.ref b0), .val (.int (2 : Int32)), .val (.ref d0), .val (.int (2 : Int32)), .val (.int (3 : Int32)), .val (.int (2 : Int32)), .val (.int c1)] [(.int c2)])) (X107.caload hx (j := (2 : Int32)) (v := (.int c2)) (by rw [e107]; exact A109.1) (State.isArrayOf_alike hZ.alike A109.2.1) A109.2.2 i109 (H109.at i109 rfl) (g := (mkF m 12 #[.val (.ref b0), .val (.int (2 : Int32)), .val (.ref d0), .val (.int (2 : Int32)), .val (.int (3 : Int32)), .val (.int (2 : Int32)), .val (.int c1)] [(.int (2 : Int32)), (.ref b0)])) rfl rfl (hb hby own_d_jdk_52_method_21_code_12)) ?_
      refine own_st (S' := T107.setTop (mkF m 20 #[.val (.ref b0), .val (.int (2 : Int32)), .val (.ref d0), .val (.int (2 : Int32)), .val (.int (3 : Int32)), .val (.int (2 : Int32)), .val (.int c2)] [(.int (255 : Int32)), (.int c2)])) (fun _ k => XS.istore X107.here hx rfl (hb hby own_d_jdk_52_method_21_code_13) rfl (l' := #[.val (.ref b0), .val (.int (2 : Int32)), .val (.ref d0), .val (.int (2 : Int32)), .val (.int (3 : Int32)), .val (.int (2 : Int32)), .val (.int c2)]) rfl (XS.iload X107.here hx rfl (hb hby own_d_jdk_52_method_21_code_15) rfl (XS.sipush X107.here hx rfl (hb hby own_d_jdk_52_method_21_code_17) k))) ?_
      by_cases hc110 : (255 : Int32) < c2
      · refine own_st (S' := T107.setTop (mkF m 25 #[.val (.ref b0), .val (.int (2 : Int32)), .val (.ref d0), .val (.int (2 : Int32)), .val (.int (3 : Int32)), .val (.int (2 : Int32)), .val (.int c2)] [(.int (2 : Int32))])) (fun _ k => XS.icmpNo X107.here hx rfl (hb hby own_d_jdk_52_method_21_code_20) rfl (tlt hc110).2.2.2 (XS.iload X107.here hx rfl (hb hby own_d_jdk_52_method_21_code_23) rfl k)) ?_
        refine own_ret X107 hx hret hlk rfl (Or.inl ⟨rfl, (by simp), _, rfl⟩) (hb hby own_d_jdk_52_method_21_code_25) (by decide) (by decide) ?_
        rw [e107]
        exact ⟨N107, (((Keep.refl _ _).wr W103 (Or.inl (List.mem_of_getElem? (i := 0) rfl))).wr W107 (Or.inl (List.mem_of_getElem? (i := 0) rfl))), Or.inr ⟨2, by decide, rfl, hc110⟩⟩
      · refine own_st (S' := T107.setTop (mkF m 30 #[.val (.ref b0), .val (.int (2 : Int32)), .val (.ref d0), .val (.int (2 : Int32)), .val (.int (3 : Int32)), .val (.int (2 : Int32)), .val (.int c2)] [(.int c2), (.int (2 : Int32)), (.ref d0)])) (fun _ k => XS.icmpYes X107.here hx rfl (pc0 := 20) (pc' := 26) rfl (hb hby own_d_jdk_52_method_21_code_20) rfl (flt hc110).2.2.2 (by decide) (by decide) (XS.aloadN X107.here hx rfl (hb hby own_d_jdk_52_method_21_code_26) rfl rfl (XS.iloadN X107.here hx rfl (hb hby own_d_jdk_52_method_21_code_27) rfl (XS.iload X107.here hx rfl (hb hby own_d_jdk_52_method_21_code_28) rfl k)))) ?_
        refine own_st (S' := T107.setTop (mkF m 31 #[.val (.ref b0), .val (.int (2 : Int32)), .val (.ref d0), .val (.int (2 : Int32)), .val (.int (3 : Int32)), .val (.int (2 : Int32)), .val (.int c2)] [(.int (c2.toInt8.toInt32)), (.int (2 : Int32)), (.ref d0)])) (fun _ k => XS.i2b X107.here hx rfl (hb hby own_d_jdk_52_method_21_code_30) rfl k) ?_
        obtain ⟨c111, A111, q111, S111, M111, H111, U111⟩ := id V107
        obtain ⟨T111, h111, X111, e111, W111, st111⟩ := stB X107 hx hZ e107 A111 (j := (2 : Int32)) (inb_of S111 ⟨by decide, by decide⟩) (g := (mkF m 31 #[.val (.ref b0), .val (.int (2 : Int32)), .val (.ref d0), .val (.int (2 : Int32)), .val (.int (3 : Int32)), .val (.int (2 : Int32)), .val (.int c2)] [(.int (c2.toInt8.toInt32)), (.int (2 : Int32)), (.ref d0)])) rfl rfl (hb hby own_d_jdk_52_method_21_code_31)
        have N111 := Fr.snoc X111 N107 g0
        have V111 : Arv Z h111 d0 k0 .byte (3 : Int32) [(.int (nar .byte (c0.toInt8.toInt32))), (.int (nar .byte (c1.toInt8.toInt32))), (.int (nar .byte (c2.toInt8.toInt32)))] (.int (0 : Int32)) := Arv.set A111 q111 S111 M111 H111 U111 (fits_nar_byte _) W111 2 rfl (Nat.le_of_ble_eq_true rfl)
        refine own_st (S' := T111.setTop (mkF m 32 #[.val (.ref b0), .val (.int (2 : Int32)), .val (.ref d0), .val (.int (2 : Int32)), .val (.int (3 : Int32)), .val (.int (2 : Int32)), .val (.int c2)] [])) st111 ?_
        refine own_st (S' := T111.setTop (mkF m 3 #[.val (.ref b0), .val (.int (3 : Int32)), .val (.ref d0), .val (.int (3 : Int32)), .val (.int (3 : Int32)), .val (.int (3 : Int32)), .val (.int c2)] [])) (fun _ k => XS.iinc X111.here hx rfl (hb hby own_d_jdk_52_method_21_code_32) rfl (l' := #[.val (.ref b0), .val (.int (3 : Int32)), .val (.ref d0), .val (.int (2 : Int32)), .val (.int (3 : Int32)), .val (.int (2 : Int32)), .val (.int c2)]) rfl (XS.iinc X111.here hx rfl (hb hby own_d_jdk_52_method_21_code_35) rfl (l' := #[.val (.ref b0), .val (.int (3 : Int32)), .val (.ref d0), .val (.int (3 : Int32)), .val (.int (3 : Int32)), .val (.int (2 : Int32)), .val (.int c2)]) rfl (XS.iinc X111.here hx rfl (hb hby own_d_jdk_52_method_21_code_38) rfl (l' := #[.val (.ref b0), .val (.int (3 : Int32)), .val (.ref d0), .val (.int (3 : Int32)), .val (.int (3 : Int32)), .val (.int (3 : Int32)), .val (.int c2)]) rfl (XS.goto X111.here hx rfl (pc0 := 41) (pc' := 3) rfl (hb hby own_d_jdk_52_method_21_code_41) (by decide) (by decide) k)))) ?_
        refine own_st (S' := T111.setTop (mkF m 46 #[.val (.ref b0), .val (.int (3 : Int32)), .val (.ref d0), .val (.int (3 : Int32)), .val (.int (3 : Int32)), .val (.int (3 : Int32)), .val (.int c2)] [(.int (3 : Int32))])) (fun _ k => XS.iload X111.here hx rfl (hb hby own_d_jdk_52_method_21_code_3) rfl (XS.iload X111.here hx rfl (hb hby own_d_jdk_52_method_21_code_5) rfl (XS.icmpYes X111.here hx rfl (pc0 := 7) (pc' := 44) rfl (hb hby own_d_jdk_52_method_21_code_7) rfl (by decide) (by decide) (by decide) (XS.iload X111.here hx rfl (hb hby own_d_jdk_52_method_21_code_44) rfl k)))) ?_
        refine own_ret X111 hx hret hlk rfl (Or.inl ⟨rfl, (by simp), _, rfl⟩) (hb hby own_d_jdk_52_method_21_code_46) (by decide) (by decide) ?_
        rw [e111]
        exact ⟨N111, ((((Keep.refl _ _).wr W103 (Or.inl (List.mem_of_getElem? (i := 0) rfl))).wr W107 (Or.inl (List.mem_of_getElem? (i := 0) rfl))).wr W111 (Or.inl (List.mem_of_getElem? (i := 0) rfl))), Or.inl ⟨rfl, ⟨hc102, hc106, hc110⟩, (by have q := V111; rw [own_nb c0, own_nb c1, own_nb c2] at q; exact q)⟩⟩
def own_Q_cod33 (Z : State) (h0 : Heap) (n0 : Nat) (v : Option Value) (h : Heap) (L : List Loc) : Prop := v = some (.int 0) ∧ Fr n0 L ∧ h = h0
theorem own_ef_cod33 (m : MethodId) (d0 : Addr) : entryFrame m #[(.ref d0), (.int (3 : Int32))] 2 = mkF m 0 #[.val (.ref d0), .val (.int (3 : Int32))] [] := by first | (simp [entryFrame, mkF, argsToLocals, Value.category, maxLocals]; done) | rfl
set_option maxRecDepth 65536 in
set_option maxHeartbeats 40000000 in
theorem own_rm_cod33 (l : Launch) (Z : State) (a0 : Array Value) (hw : ∀ d ∈ tables_1, d.before a0 Z = true) (G1 : Int32) (S1 : Sta Z Z.heap "java/lang/String" "COMPACT_STRINGS" "Z" (.int G1)) (P1 : ¬ G1 = 0) (G3 : Value) (S3 : Sta Z Z.heap "jdk/internal/util/Preconditions" "SIOOBE_FORMATTER" "Ljava/util/function/BiFunction;" G3) (P3 : G3.isRef = true) (S4 : Sta Z Z.heap "java/lang/StringUTF16" "$assertionsDisabled" "Z" (.int (1 : Int32))) (S5 : Sta Z Z.heap "java/lang/StringUTF16" "HI_BYTE_SHIFT" "I" (.int (0 : Int32))) (S6 : Sta Z Z.heap "java/lang/StringUTF16" "LO_BYTE_SHIFT" "I" (.int (8 : Int32))) (ws : List Jvm.Cond) (d0 : Addr) (k0 : ClassId) (vs : List Value) (h0 : Heap) (n0 : Nat) (Z0 : n0 ≤ h0.size) (XO : Old Z n0 h0) (V1 : Arv Z h0 d0 k0 .byte (3 : Int32) vs (.int (0 : Int32))) :
    own_Met l Z h0 (⟨"java/lang/StringUTF16", "coderFromArrayLen", "([BI)B"⟩ : MethodName) jdk_52_method_15_code 2 (some .byte) ws { frames := 0, cells := 0, slots := 0, locals := 0 } #[(.ref d0), (.int (3 : Int32))] (own_Q_cod33 Z h0 n0) := by
  refine own_enter (plainFor_of_name own_pn2) (fun p e s m below meth c s₁ hx hby hlk hml hown hnm hret hZ X0 e0 => ?_)
  have N0 := Fr.nil n0
  refine own_st (S' := s₁.setTop (mkF m 0 #[.val (.ref d0), .val (.int (3 : Int32))] [])) (fun _ k => castTop (own_ef_cod33 m d0) k) ?_
  refine own_st (S' := s₁.setTop (mkF m 2 #[.val (.ref d0), .val (.int (3 : Int32))] [(.ref d0), (.int (3 : Int32))])) (fun _ k => XS.iloadN X0.here hx rfl (hb hby own_d_jdk_52_method_15_code_0) rfl (XS.aloadN X0.here hx rfl (hb hby own_d_jdk_52_method_15_code_1) rfl rfl k)) ?_
  obtain ⟨c101, A101, q101, S101, M101, H101, U101⟩ := id V1
  refine own_st (S' := s₁.setTop (mkF m 3 #[.val (.ref d0), .val (.int (3 : Int32))] [(.int (3 : Int32)), (.int (3 : Int32))])) (len_of S101 M101 ▸ X0.arraylength hx (by rw [e0]; exact A101.1) (State.isArrayOf_alike hZ.alike A101.2.1) (g := (mkF m 2 #[.val (.ref d0), .val (.int (3 : Int32))] [(.ref d0), (.int (3 : Int32))])) rfl rfl (hb hby own_d_jdk_52_method_15_code_2)) ?_
  refine own_st (S' := s₁.setTop (mkF m 7 #[.val (.ref d0), .val (.int (3 : Int32))] [(.int (((0 : Int32).toUInt32 >>> ((31 : Int32) &&& 31).toUInt32).toInt32))])) (fun _ k => XS.isub X0.here hx rfl (hb hby own_d_jdk_52_method_15_code_3) rfl (XS.bipush X0.here hx rfl (hb hby own_d_jdk_52_method_15_code_4) (XS.iushr X0.here hx rfl (hb hby own_d_jdk_52_method_15_code_6) rfl k))) ?_
  rw [show (((0 : Int32).toUInt32 >>> ((31 : Int32) &&& 31).toUInt32).toInt32) = (0 : Int32) from by decide]
  refine own_st (S' := s₁.setTop (mkF m 8 #[.val (.ref d0), .val (.int (3 : Int32))] [(.int ((0 : Int32).toInt8.toInt32))])) (fun _ k => XS.i2b X0.here hx rfl (hb hby own_d_jdk_52_method_15_code_7) rfl k) ?_
  rw [show ((0 : Int32).toInt8.toInt32) = (0 : Int32) from by decide]
  refine own_ret X0 hx hret hlk rfl (Or.inl ⟨rfl, (by simp), _, rfl⟩) (hb hby own_d_jdk_52_method_15_code_8) (by decide) (by decide) ?_
  rw [e0]
  exact ⟨rfl, N0, rfl⟩
def own_Q_cod36 (Z : State) (h0 : Heap) (n0 : Nat) (v : Option Value) (h : Heap) (L : List Loc) : Prop := v = some (.int 1) ∧ Fr n0 L ∧ h = h0
theorem own_ef_cod36 (m : MethodId) (d0 : Addr) : entryFrame m #[(.ref d0), (.int (3 : Int32))] 2 = mkF m 0 #[.val (.ref d0), .val (.int (3 : Int32))] [] := by first | (simp [entryFrame, mkF, argsToLocals, Value.category, maxLocals]; done) | rfl
set_option maxRecDepth 65536 in
set_option maxHeartbeats 40000000 in
theorem own_rm_cod36 (l : Launch) (Z : State) (a0 : Array Value) (hw : ∀ d ∈ tables_1, d.before a0 Z = true) (G1 : Int32) (S1 : Sta Z Z.heap "java/lang/String" "COMPACT_STRINGS" "Z" (.int G1)) (P1 : ¬ G1 = 0) (G3 : Value) (S3 : Sta Z Z.heap "jdk/internal/util/Preconditions" "SIOOBE_FORMATTER" "Ljava/util/function/BiFunction;" G3) (P3 : G3.isRef = true) (S4 : Sta Z Z.heap "java/lang/StringUTF16" "$assertionsDisabled" "Z" (.int (1 : Int32))) (S5 : Sta Z Z.heap "java/lang/StringUTF16" "HI_BYTE_SHIFT" "I" (.int (0 : Int32))) (S6 : Sta Z Z.heap "java/lang/StringUTF16" "LO_BYTE_SHIFT" "I" (.int (8 : Int32))) (ws : List Jvm.Cond) (d0 : Addr) (k0 : ClassId) (vs : List Value) (h0 : Heap) (n0 : Nat) (Z0 : n0 ≤ h0.size) (XO : Old Z n0 h0) (V1 : Arv Z h0 d0 k0 .byte (6 : Int32) vs (.int (0 : Int32))) :
    own_Met l Z h0 (⟨"java/lang/StringUTF16", "coderFromArrayLen", "([BI)B"⟩ : MethodName) jdk_52_method_15_code 2 (some .byte) ws { frames := 0, cells := 0, slots := 0, locals := 0 } #[(.ref d0), (.int (3 : Int32))] (own_Q_cod36 Z h0 n0) := by
  refine own_enter (plainFor_of_name own_pn2) (fun p e s m below meth c s₁ hx hby hlk hml hown hnm hret hZ X0 e0 => ?_)
  have N0 := Fr.nil n0
  refine own_st (S' := s₁.setTop (mkF m 0 #[.val (.ref d0), .val (.int (3 : Int32))] [])) (fun _ k => castTop (own_ef_cod36 m d0) k) ?_
  refine own_st (S' := s₁.setTop (mkF m 2 #[.val (.ref d0), .val (.int (3 : Int32))] [(.ref d0), (.int (3 : Int32))])) (fun _ k => XS.iloadN X0.here hx rfl (hb hby own_d_jdk_52_method_15_code_0) rfl (XS.aloadN X0.here hx rfl (hb hby own_d_jdk_52_method_15_code_1) rfl rfl k)) ?_
  obtain ⟨c101, A101, q101, S101, M101, H101, U101⟩ := id V1
  refine own_st (S' := s₁.setTop (mkF m 3 #[.val (.ref d0), .val (.int (3 : Int32))] [(.int (6 : Int32)), (.int (3 : Int32))])) (len_of S101 M101 ▸ X0.arraylength hx (by rw [e0]; exact A101.1) (State.isArrayOf_alike hZ.alike A101.2.1) (g := (mkF m 2 #[.val (.ref d0), .val (.int (3 : Int32))] [(.ref d0), (.int (3 : Int32))])) rfl rfl (hb hby own_d_jdk_52_method_15_code_2)) ?_
  refine own_st (S' := s₁.setTop (mkF m 7 #[.val (.ref d0), .val (.int (3 : Int32))] [(.int (((-3 : Int32).toUInt32 >>> ((31 : Int32) &&& 31).toUInt32).toInt32))])) (fun _ k => XS.isub X0.here hx rfl (hb hby own_d_jdk_52_method_15_code_3) rfl (XS.bipush X0.here hx rfl (hb hby own_d_jdk_52_method_15_code_4) (XS.iushr X0.here hx rfl (hb hby own_d_jdk_52_method_15_code_6) rfl k))) ?_
  rw [show (((-3 : Int32).toUInt32 >>> ((31 : Int32) &&& 31).toUInt32).toInt32) = (1 : Int32) from by decide]
  refine own_st (S' := s₁.setTop (mkF m 8 #[.val (.ref d0), .val (.int (3 : Int32))] [(.int ((1 : Int32).toInt8.toInt32))])) (fun _ k => XS.i2b X0.here hx rfl (hb hby own_d_jdk_52_method_15_code_7) rfl k) ?_
  rw [show ((1 : Int32).toInt8.toInt32) = (1 : Int32) from by decide]
  refine own_ret X0 hx hret hlk rfl (Or.inl ⟨rfl, (by simp), _, rfl⟩) (hb hby own_d_jdk_52_method_15_code_8) (by decide) (by decide) ?_
  rw [e0]
  exact ⟨rfl, N0, rfl⟩
def own_Q_cm33 (Z : State) (c0 c1 c2 : Int32) (h0 : Heap) (n0 : Nat) (v : Option Value) (h : Heap) (L : List Loc) : Prop := ∃ (r : Addr) (k : ClassId), v = some (.ref r) ∧ Fr n0 L ∧ Ext h0 h ∧ h0.size ≤ r ∧ (((¬ ((255 : Int32) < c0) ∧ ¬ ((255 : Int32) < c1) ∧ ¬ ((255 : Int32) < c2)) ∧ Arv Z h r k .byte (3 : Int32) [.int (StrChars.lo8 c0), .int (StrChars.lo8 c1), .int (StrChars.lo8 c2)] (.int (0 : Int32))) ∨ (((255 : Int32) < c0 ∨ (255 : Int32) < c1 ∨ (255 : Int32) < c2) ∧ Arv Z h r k .byte (6 : Int32) [.int (StrChars.lo8 c0), .int (StrChars.hi8 c0), .int (StrChars.lo8 c1), .int (StrChars.hi8 c1), .int (StrChars.lo8 c2), .int (StrChars.hi8 c2)] (.int (0 : Int32))))
theorem own_ef_cm33 (m : MethodId) (b0 : Addr) : entryFrame m #[(.ref b0), (.int (0 : Int32)), (.int (3 : Int32))] 6 = mkF m 0 #[.val (.ref b0), .val (.int (0 : Int32)), .val (.int (3 : Int32)), .unset, .unset, .unset] [] := by first | (simp [entryFrame, mkF, argsToLocals, Value.category, maxLocals]; done) | rfl
set_option maxRecDepth 65536 in
set_option maxHeartbeats 40000000 in
theorem own_rm_cm33 (l : Launch) (Z : State) (a0 : Array Value) (hw : ∀ d ∈ tables_1, d.before a0 Z = true) (G1 : Int32) (S1 : Sta Z Z.heap "java/lang/String" "COMPACT_STRINGS" "Z" (.int G1)) (P1 : ¬ G1 = 0) (G3 : Value) (S3 : Sta Z Z.heap "jdk/internal/util/Preconditions" "SIOOBE_FORMATTER" "Ljava/util/function/BiFunction;" G3) (P3 : G3.isRef = true) (S4 : Sta Z Z.heap "java/lang/StringUTF16" "$assertionsDisabled" "Z" (.int (1 : Int32))) (S5 : Sta Z Z.heap "java/lang/StringUTF16" "HI_BYTE_SHIFT" "I" (.int (0 : Int32))) (S6 : Sta Z Z.heap "java/lang/StringUTF16" "LO_BYTE_SHIFT" "I" (.int (8 : Int32))) (ws : List Jvm.Cond) (b0 : Addr) (kc : ClassId) (c0 c1 c2 : Int32) (h0 : Heap) (n0 : Nat) (Z0 : n0 ≤ h0.size) (XO : Old Z n0 h0) (V1 : Arv Z h0 b0 kc .char (3 : Int32) [.int c0, .int c1, .int c2] (.int (0 : Int32))) (hp0 : ¬ c0 < 0 ∧ ¬ (65535 : Int32) < c0) (hp1 : ¬ c1 < 0 ∧ ¬ (65535 : Int32) < c1) (hp2 : ¬ c2 < 0 ∧ ¬ (65535 : Int32) < c2) :
    own_Met l Z h0 (⟨"java/lang/StringUTF16", "compress", "([CII)[B"⟩ : MethodName) jdk_52_method_16_code 6 (some (.array .byte)) ws { frames := 3, cells := 2, slots := 9, locals := 40 } #[(.ref b0), (.int (0 : Int32)), (.int (3 : Int32))] (own_Q_cm33 Z c0 c1 c2 h0 n0) := by
  refine own_enter (plainFor_of_name own_pn2) (fun p e s m below meth c s₁ hx hby hlk hml hown hnm hret hZ X0 e0 => ?_)
  have N0 := Fr.nil n0
  refine own_st (S' := s₁.setTop (mkF m 0 #[.val (.ref b0), .val (.int (0 : Int32)), .val (.int (3 : Int32)), .unset, .unset, .unset] [])) (fun _ k => castTop (own_ef_cm33 m b0) k) ?_
  refine own_st (S' := s₁.setTop (mkF m 1 #[.val (.ref b0), .val (.int (0 : Int32)), .val (.int (3 : Int32)), .unset, .unset, .unset] [(.int (3 : Int32))])) (fun _ k => XS.iloadN X0.here hx rfl (hb hby own_d_jdk_52_method_16_code_0) rfl k) ?_
  obtain ⟨T101, h101, k101, X101, e101, E101, A101, AE101, st101⟩ := newPE X0 hx hZ (aty := .byte) (hw _ own_w24) e0 (g := (mkF m 1 #[.val (.ref b0), .val (.int (0 : Int32)), .val (.int (3 : Int32)), .unset, .unset, .unset] [(.int (3 : Int32))])) rfl (hb hby own_d_jdk_52_method_16_code_1) rfl (by decide) (cap := 3) (by decide) (by decide) (by decide) (by decide) (ad := "[B") (by decide)
  obtain ⟨b101, g101⟩ : ∃ z, z = h0.size := ⟨_, rfl⟩
  rw [← g101] at A101 AE101 st101
  have V101 : Arv Z h101 b101 k101 .byte (3 : Int32) [(.int (0 : Int32)), (.int (0 : Int32)), (.int (0 : Int32))] (.int (0 : Int32)) := (Arv.new A101 (by decide)).pad (pad_rep [] (.int (0 : Int32)) 3)
  refine own_st (S' := T101.setTop (mkF m 3 #[.val (.ref b0), .val (.int (0 : Int32)), .val (.int (3 : Int32)), .unset, .unset, .unset] [(.ref b101)])) st101 ?_
  refine own_st (S' := T101.setTop (mkF m 7 #[.val (.ref b0), .val (.int (0 : Int32)), .val (.int (3 : Int32)), .val (.ref b101), .unset, .unset] [(.ref b101), (.int (0 : Int32)), (.ref b0)])) (fun _ k => XS.astoreN X101.here hx rfl (hb hby own_d_jdk_52_method_16_code_3) rfl rfl (l' := #[.val (.ref b0), .val (.int (0 : Int32)), .val (.int (3 : Int32)), .val (.ref b101), .unset, .unset]) rfl (XS.aloadN X101.here hx rfl (hb hby own_d_jdk_52_method_16_code_4) rfl rfl (XS.iloadN X101.here hx rfl (hb hby own_d_jdk_52_method_16_code_5) rfl (XS.aloadN X101.here hx rfl (hb hby own_d_jdk_52_method_16_code_6) rfl rfl k)))) ?_
  refine own_st (S' := T101.setTop (mkF m 9 #[.val (.ref b0), .val (.int (0 : Int32)), .val (.int (3 : Int32)), .val (.ref b101), .unset, .unset] [(.int (3 : Int32)), (.int (0 : Int32)), (.ref b101), (.int (0 : Int32)), (.ref b0)])) (fun _ k => XS.iconst X101.here hx rfl (hb hby own_d_jdk_52_method_16_code_7) (XS.iloadN X101.here hx rfl (hb hby own_d_jdk_52_method_16_code_8) rfl k)) ?_
  have V102 : Arv Z h101 b0 kc .char (3 : Int32) [(.int c0), (.int c1), (.int c2)] (.int (0 : Int32)) := (V1.ext E101)
  have XO103 : Old Z n0 h101 := (XO.ext E101)
  obtain ⟨_, _, ⟨T104, L104, k104, n104⟩, -, X104, ⟨Lc104, hQ104, l104, y104, z104⟩, st104⟩ := Jvm.LawKit.callS X101 hx (y := (⟨"java/lang/StringUTF16", "compress", "([CI[BII)I"⟩ : MethodName)) hown (mvT hZ (hw _ own_w25)) (mvT hZ (hw _ own_w26)) (mvT hZ (hw _ own_w22)) (mvT hZ (hw _ own_w27)) (by decide) (backOf (W := 0) (own_rm_cm53 l Z a0 hw G1 S1 P1 G3 S3 P3 S4 S5 S6 [] b0 b101 kc k101 c0 c1 c2 h101 n0 (Nat.le_trans Z0 E101.1) XO103 (Nat.le_trans Z0 (Nat.le_of_eq g101.symm)) (Nat.ne_of_lt (Nat.lt_of_lt_of_le V1.lt (Nat.le_of_eq g101.symm))) V102 V101) hZ (hw _ own_w27) (hw _ own_w22) (by decide) (by decide)) (g := (mkF m 9 #[.val (.ref b0), .val (.int (0 : Int32)), .val (.int (3 : Int32)), .val (.ref b101), .unset, .unset] [(.int (3 : Int32)), (.int (0 : Int32)), (.ref b101), (.int (0 : Int32)), (.ref b0)])) rfl (by rw [hml]; rfl) (argsL := [(.ref b0), (.int (0 : Int32)), (.ref b101), (.int (0 : Int32)), (.int (3 : Int32))]) (rest := []) (lenOf own_pd9 rfl) rfl (by show 2 * 0 + _ ≤ _; exact Nat.le_of_eq rfl) (hb hby own_d_jdk_52_method_16_code_9) (fun _ _ => ⟨rfl, e101, (by decide : 1 + 0 ≤ _), (by decide : 3 + 0 ≤ _)⟩)
  dsimp only [Pt.U, Pt.locs, Pt.cells, Pt.slots] at X104 l104 y104 z104 st104 hQ104
  subst l104 y104 z104
  obtain ⟨M104, K104, o104⟩ := hQ104
  have N104 := Fr.app N0 M104
  obtain ⟨h104, e104⟩ : ∃ z, T104.heap = z := ⟨_, rfl⟩
  rw [e104] at K104 o104
  rcases o104 with ⟨rfl, hs104, V104⟩ | ⟨j104, hj104, rfl, hb104⟩
  · refine own_st (S' := T104.setTop (mkF m 12 #[.val (.ref b0), .val (.int (0 : Int32)), .val (.int (3 : Int32)), .val (.ref b101), .unset, .unset] [(.int (3 : Int32))])) st104 ?_
    refine own_st (S' := T104.setTop (mkF m 57 #[.val (.ref b0), .val (.int (0 : Int32)), .val (.int (3 : Int32)), .val (.ref b101), .val (.int (3 : Int32)), .unset] [])) (fun _ k => XS.istore X104.here hx rfl (hb hby own_d_jdk_52_method_16_code_12) rfl (l' := #[.val (.ref b0), .val (.int (0 : Int32)), .val (.int (3 : Int32)), .val (.ref b101), .val (.int (3 : Int32)), .unset]) rfl (XS.iload X104.here hx rfl (hb hby own_d_jdk_52_method_16_code_14) rfl (XS.iloadN X104.here hx rfl (hb hby own_d_jdk_52_method_16_code_16) rfl (XS.icmpYes X104.here hx rfl (pc0 := 17) (pc' := 57) rfl (hb hby own_d_jdk_52_method_16_code_17) rfl (by decide) (by decide) (by decide) k)))) ?_
    refine own_st (S' := T104.setTop (mkF m 58 #[.val (.ref b0), .val (.int (0 : Int32)), .val (.int (3 : Int32)), .val (.ref b101), .val (.int (3 : Int32)), .unset] [(.ref b101)])) (fun _ k => XS.aloadN X104.here hx rfl (hb hby own_d_jdk_52_method_16_code_57) rfl rfl k) ?_
    have XE105 : Ext h0 h104 := (own_xk E101 K104 (allS (Nat.le_of_eq g101.symm) all0))
    refine own_ret X104 hx hret hlk rfl (Or.inr (Or.inr (Or.inr (Or.inr ⟨rfl, rfl, rfl⟩)))) (hb hby own_d_jdk_52_method_16_code_58) (by decide) (by decide) ?_
    rw [e104]
    exact ⟨b101, k101, rfl, N104, XE105, (Nat.le_of_eq g101.symm), Or.inl ⟨hs104, V104⟩⟩
  · have hjj : j104 = 0 ∨ j104 = 1 ∨ j104 = 2 := by omega
    rcases hjj with rfl | rfl | rfl
    · refine own_st (S' := T104.setTop (mkF m 12 #[.val (.ref b0), .val (.int (0 : Int32)), .val (.int (3 : Int32)), .val (.ref b101), .unset, .unset] [(.int (0 : Int32))])) st104 ?_
      refine own_st (S' := T104.setTop (mkF m 20 #[.val (.ref b0), .val (.int (0 : Int32)), .val (.int (3 : Int32)), .val (.ref b101), .val (.int (0 : Int32)), .unset] [])) (fun _ k => XS.istore X104.here hx rfl (hb hby own_d_jdk_52_method_16_code_12) rfl (l' := #[.val (.ref b0), .val (.int (0 : Int32)), .val (.int (3 : Int32)), .val (.ref b101), .val (.int (0 : Int32)), .unset]) rfl (XS.iload X104.here hx rfl (hb hby own_d_jdk_52_method_16_code_14) rfl (XS.iloadN X104.here hx rfl (hb hby own_d_jdk_52_method_16_code_16) rfl (XS.icmpNo X104.here hx rfl (hb hby own_d_jdk_52_method_16_code_17) rfl (by decide) k)))) ?_
      refine own_st (S' := T104.setTop (mkF m 23 #[.val (.ref b0), .val (.int (0 : Int32)), .val (.int (3 : Int32)), .val (.ref b101), .val (.int (0 : Int32)), .unset] [(.int (3 : Int32)), (.int (0 : Int32)), (.ref b0)])) (fun _ k => XS.aloadN X104.here hx rfl (hb hby own_d_jdk_52_method_16_code_20) rfl rfl (XS.iloadN X104.here hx rfl (hb hby own_d_jdk_52_method_16_code_21) rfl (XS.iloadN X104.here hx rfl (hb hby own_d_jdk_52_method_16_code_22) rfl k))) ?_
      have V106 : Arv Z h104 b0 kc .char (3 : Int32) [(.int c0), (.int c1), (.int c2)] (.int (0 : Int32)) := (V102.keep K104 (ninS (Nat.ne_of_lt (Nat.lt_of_lt_of_le V1.lt (Nat.le_of_eq g101.symm))) nin0))
      have XO107 : Old Z n0 h104 := (XO103.keep K104 (allS (Nat.le_trans Z0 (Nat.le_of_eq g101.symm)) all0))
      obtain ⟨_, _, ⟨T108, L108, k108, n108⟩, -, X108, ⟨Lc108, hQ108, l108, y108, z108⟩, st108⟩ := Jvm.LawKit.callS X104 hx (y := (⟨"java/lang/StringUTF16", "toBytes", "([CII)[B"⟩ : MethodName)) hown (mvT hZ (hw _ own_w76)) (mvT hZ (hw _ own_w77)) (mvT hZ (hw _ own_w22)) (mvT hZ (hw _ own_w78)) (by decide) (backOf (W := 0) (own_rm_tob3 l Z a0 hw G1 S1 P1 G3 S3 P3 S4 S5 S6 [] b0 kc c0 c1 c2 h104 n0 (Nat.le_trans Z0 (Nat.le_trans E101.1 K104.1)) XO107 V106) hZ (hw _ own_w78) (hw _ own_w22) (by decide) (by decide)) (g := (mkF m 23 #[.val (.ref b0), .val (.int (0 : Int32)), .val (.int (3 : Int32)), .val (.ref b101), .val (.int (0 : Int32)), .unset] [(.int (3 : Int32)), (.int (0 : Int32)), (.ref b0)])) rfl (by rw [hml]; rfl) (argsL := [(.ref b0), (.int (0 : Int32)), (.int (3 : Int32))]) (rest := []) (lenOf own_pd10 rfl) rfl (by show 2 * 0 + _ ≤ _; exact Nat.le_of_eq rfl) (hb hby own_d_jdk_52_method_16_code_23) (fun _ _ => ⟨rfl, e104, (by decide : 1 + 1 ≤ _), (by decide : 3 + 6 ≤ _)⟩)
      dsimp only [Pt.U, Pt.locs, Pt.cells, Pt.slots] at X108 l108 y108 z108 st108 hQ108
      subst l108 y108 z108
      obtain ⟨r108, kr108, rfl, M108, E108, g108, V108⟩ := hQ108
      have N108 := Fr.app N104 M108
      obtain ⟨h108, e108⟩ : ∃ z, T108.heap = z := ⟨_, rfl⟩
      rw [e108] at E108 V108
      refine own_st (S' := T108.setTop (mkF m 26 #[.val (.ref b0), .val (.int (0 : Int32)), .val (.int (3 : Int32)), .val (.ref b101), .val (.int (0 : Int32)), .unset] [(.ref r108)])) st108 ?_
      refine own_st (S' := T108.setTop (mkF m 32 #[.val (.ref b0), .val (.int (0 : Int32)), .val (.int (3 : Int32)), .val (.ref b101), .val (.int (0 : Int32)), .val (.ref r108)] [(.int (0 : Int32)), (.ref r108)])) (fun _ k => XS.astore X108.here hx rfl (hb hby own_d_jdk_52_method_16_code_26) rfl rfl (l' := #[.val (.ref b0), .val (.int (0 : Int32)), .val (.int (3 : Int32)), .val (.ref b101), .val (.int (0 : Int32)), .val (.ref r108)]) rfl (XS.aload X108.here hx rfl (hb hby own_d_jdk_52_method_16_code_28) rfl rfl (XS.iload X108.here hx rfl (hb hby own_d_jdk_52_method_16_code_30) rfl k))) ?_
      have XO109 : Old Z n0 h108 := (XO107.ext E108)
      obtain ⟨_, _, ⟨T110, L110, k110, n110⟩, -, X110, ⟨Lc110, hQ110, l110, y110, z110⟩, st110⟩ := Jvm.LawKit.callS X108 hx (y := (⟨"java/lang/StringUTF16", "getChar", "([BI)C"⟩ : MethodName)) hown (mvT hZ (hw _ own_w92)) (mvT hZ (hw _ own_w93)) (mvT hZ (hw _ own_w22)) (mvT hZ (hw _ own_w94)) (by decide) (backOf (W := 0) (own_rm_getc l Z a0 hw G1 S1 P1 G3 S3 P3 S4 S5 S6 [] r108 (0 : Int32) (0 : Int32) (6 : Int32) (StrChars.lo8 c0) (StrChars.hi8 c0) kr108 _ h108 n0 (Nat.le_trans Z0 (Nat.le_trans (Nat.le_trans E101.1 K104.1) E108.1)) XO109 V108 (by decide) ⟨by decide, by decide⟩ ⟨by decide, by decide⟩ rfl rfl) hZ (hw _ own_w94) (hw _ own_w22) (by decide) (by decide)) (g := (mkF m 32 #[.val (.ref b0), .val (.int (0 : Int32)), .val (.int (3 : Int32)), .val (.ref b101), .val (.int (0 : Int32)), .val (.ref r108)] [(.int (0 : Int32)), (.ref r108)])) rfl (by rw [hml]; rfl) (argsL := [(.ref r108), (.int (0 : Int32))]) (rest := []) (lenOf own_pd4 rfl) rfl (by show 2 * 0 + _ ≤ _; exact Nat.le_of_eq rfl) (hb hby own_d_jdk_52_method_16_code_32) (fun _ _ => ⟨rfl, e108, (by decide : 2 + 0 ≤ _), (by decide : 9 + 0 ≤ _)⟩)
      dsimp only [Pt.U, Pt.locs, Pt.cells, Pt.slots] at X110 l110 y110 z110 st110 hQ110
      subst l110 y110 z110
      obtain ⟨rfl, M110, e110⟩ := hQ110
      have N110 := Fr.app N108 M110
      refine own_st (S' := T110.setTop (mkF m 35 #[.val (.ref b0), .val (.int (0 : Int32)), .val (.int (3 : Int32)), .val (.ref b101), .val (.int (0 : Int32)), .val (.ref r108)] [(.int (StrChars.pairCh (StrChars.lo8 c0) (StrChars.hi8 c0)))])) st110 ?_
      rw [StrChars.pair_says hp0.1 hp0.2]
      refine own_st (S' := T110.setTop (mkF m 56 #[.val (.ref b0), .val (.int (0 : Int32)), .val (.int (3 : Int32)), .val (.ref b101), .val (.int (0 : Int32)), .val (.ref r108)] [(.ref r108)])) (fun _ k => XS.sipush X110.here hx rfl (hb hby own_d_jdk_52_method_16_code_35) (XS.icmpYes X110.here hx rfl (pc0 := 38) (pc' := 54) rfl (hb hby own_d_jdk_52_method_16_code_38) rfl (tlt hb104).2.2.1 (by decide) (by decide) (XS.aload X110.here hx rfl (hb hby own_d_jdk_52_method_16_code_54) rfl rfl k))) ?_
      have XE111 : Ext h0 h108 := (own_xt (own_xk E101 K104 (allS (Nat.le_of_eq g101.symm) all0)) E108)
      refine own_ret X110 hx hret hlk rfl (Or.inr (Or.inr (Or.inr (Or.inr ⟨rfl, rfl, rfl⟩)))) (hb hby own_d_jdk_52_method_16_code_56) (by decide) (by decide) ?_
      rw [e110]
      exact ⟨r108, kr108, rfl, N110, XE111, (Nat.le_trans (Nat.le_trans E101.1 K104.1) g108), Or.inr ⟨Or.inl hb104, V108⟩⟩
    · refine own_st (S' := T104.setTop (mkF m 12 #[.val (.ref b0), .val (.int (0 : Int32)), .val (.int (3 : Int32)), .val (.ref b101), .unset, .unset] [(.int (1 : Int32))])) st104 ?_
      refine own_st (S' := T104.setTop (mkF m 20 #[.val (.ref b0), .val (.int (0 : Int32)), .val (.int (3 : Int32)), .val (.ref b101), .val (.int (1 : Int32)), .unset] [])) (fun _ k => XS.istore X104.here hx rfl (hb hby own_d_jdk_52_method_16_code_12) rfl (l' := #[.val (.ref b0), .val (.int (0 : Int32)), .val (.int (3 : Int32)), .val (.ref b101), .val (.int (1 : Int32)), .unset]) rfl (XS.iload X104.here hx rfl (hb hby own_d_jdk_52_method_16_code_14) rfl (XS.iloadN X104.here hx rfl (hb hby own_d_jdk_52_method_16_code_16) rfl (XS.icmpNo X104.here hx rfl (hb hby own_d_jdk_52_method_16_code_17) rfl (by decide) k)))) ?_
      refine own_st (S' := T104.setTop (mkF m 23 #[.val (.ref b0), .val (.int (0 : Int32)), .val (.int (3 : Int32)), .val (.ref b101), .val (.int (1 : Int32)), .unset] [(.int (3 : Int32)), (.int (0 : Int32)), (.ref b0)])) (fun _ k => XS.aloadN X104.here hx rfl (hb hby own_d_jdk_52_method_16_code_20) rfl rfl (XS.iloadN X104.here hx rfl (hb hby own_d_jdk_52_method_16_code_21) rfl (XS.iloadN X104.here hx rfl (hb hby own_d_jdk_52_method_16_code_22) rfl k))) ?_
      have V112 : Arv Z h104 b0 kc .char (3 : Int32) [(.int c0), (.int c1), (.int c2)] (.int (0 : Int32)) := (V102.keep K104 (ninS (Nat.ne_of_lt (Nat.lt_of_lt_of_le V1.lt (Nat.le_of_eq g101.symm))) nin0))
      have XO113 : Old Z n0 h104 := (XO103.keep K104 (allS (Nat.le_trans Z0 (Nat.le_of_eq g101.symm)) all0))
      obtain ⟨_, _, ⟨T114, L114, k114, n114⟩, -, X114, ⟨Lc114, hQ114, l114, y114, z114⟩, st114⟩ := Jvm.LawKit.callS X104 hx (y := (⟨"java/lang/StringUTF16", "toBytes", "([CII)[B"⟩ : MethodName)) hown (mvT hZ (hw _ own_w76)) (mvT hZ (hw _ own_w77)) (mvT hZ (hw _ own_w22)) (mvT hZ (hw _ own_w78)) (by decide) (backOf (W := 0) (own_rm_tob3 l Z a0 hw G1 S1 P1 G3 S3 P3 S4 S5 S6 [] b0 kc c0 c1 c2 h104 n0 (Nat.le_trans Z0 (Nat.le_trans E101.1 K104.1)) XO113 V112) hZ (hw _ own_w78) (hw _ own_w22) (by decide) (by decide)) (g := (mkF m 23 #[.val (.ref b0), .val (.int (0 : Int32)), .val (.int (3 : Int32)), .val (.ref b101), .val (.int (1 : Int32)), .unset] [(.int (3 : Int32)), (.int (0 : Int32)), (.ref b0)])) rfl (by rw [hml]; rfl) (argsL := [(.ref b0), (.int (0 : Int32)), (.int (3 : Int32))]) (rest := []) (lenOf own_pd10 rfl) rfl (by show 2 * 0 + _ ≤ _; exact Nat.le_of_eq rfl) (hb hby own_d_jdk_52_method_16_code_23) (fun _ _ => ⟨rfl, e104, (by decide : 1 + 1 ≤ _), (by decide : 3 + 6 ≤ _)⟩)
      dsimp only [Pt.U, Pt.locs, Pt.cells, Pt.slots] at X114 l114 y114 z114 st114 hQ114
      subst l114 y114 z114
      obtain ⟨r114, kr114, rfl, M114, E114, g114, V114⟩ := hQ114
      have N114 := Fr.app N104 M114
      obtain ⟨h114, e114⟩ : ∃ z, T114.heap = z := ⟨_, rfl⟩
      rw [e114] at E114 V114
      refine own_st (S' := T114.setTop (mkF m 26 #[.val (.ref b0), .val (.int (0 : Int32)), .val (.int (3 : Int32)), .val (.ref b101), .val (.int (1 : Int32)), .unset] [(.ref r114)])) st114 ?_
      refine own_st (S' := T114.setTop (mkF m 32 #[.val (.ref b0), .val (.int (0 : Int32)), .val (.int (3 : Int32)), .val (.ref b101), .val (.int (1 : Int32)), .val (.ref r114)] [(.int (1 : Int32)), (.ref r114)])) (fun _ k => XS.astore X114.here hx rfl (hb hby own_d_jdk_52_method_16_code_26) rfl rfl (l' := #[.val (.ref b0), .val (.int (0 : Int32)), .val (.int (3 : Int32)), .val (.ref b101), .val (.int (1 : Int32)), .val (.ref r114)]) rfl (XS.aload X114.here hx rfl (hb hby own_d_jdk_52_method_16_code_28) rfl rfl (XS.iload X114.here hx rfl (hb hby own_d_jdk_52_method_16_code_30) rfl k))) ?_
      have XO115 : Old Z n0 h114 := (XO113.ext E114)
      obtain ⟨_, _, ⟨T116, L116, k116, n116⟩, -, X116, ⟨Lc116, hQ116, l116, y116, z116⟩, st116⟩ := Jvm.LawKit.callS X114 hx (y := (⟨"java/lang/StringUTF16", "getChar", "([BI)C"⟩ : MethodName)) hown (mvT hZ (hw _ own_w92)) (mvT hZ (hw _ own_w93)) (mvT hZ (hw _ own_w22)) (mvT hZ (hw _ own_w94)) (by decide) (backOf (W := 0) (own_rm_getc l Z a0 hw G1 S1 P1 G3 S3 P3 S4 S5 S6 [] r114 (1 : Int32) (2 : Int32) (6 : Int32) (StrChars.lo8 c1) (StrChars.hi8 c1) kr114 _ h114 n0 (Nat.le_trans Z0 (Nat.le_trans (Nat.le_trans E101.1 K104.1) E114.1)) XO115 V114 (by decide) ⟨by decide, by decide⟩ ⟨by decide, by decide⟩ rfl rfl) hZ (hw _ own_w94) (hw _ own_w22) (by decide) (by decide)) (g := (mkF m 32 #[.val (.ref b0), .val (.int (0 : Int32)), .val (.int (3 : Int32)), .val (.ref b101), .val (.int (1 : Int32)), .val (.ref r114)] [(.int (1 : Int32)), (.ref r114)])) rfl (by rw [hml]; rfl) (argsL := [(.ref r114), (.int (1 : Int32))]) (rest := []) (lenOf own_pd4 rfl) rfl (by show 2 * 0 + _ ≤ _; exact Nat.le_of_eq rfl) (hb hby own_d_jdk_52_method_16_code_32) (fun _ _ => ⟨rfl, e114, (by decide : 2 + 0 ≤ _), (by decide : 9 + 0 ≤ _)⟩)
      dsimp only [Pt.U, Pt.locs, Pt.cells, Pt.slots] at X116 l116 y116 z116 st116 hQ116
      subst l116 y116 z116
      obtain ⟨rfl, M116, e116⟩ := hQ116
      have N116 := Fr.app N114 M116
      refine own_st (S' := T116.setTop (mkF m 35 #[.val (.ref b0), .val (.int (0 : Int32)), .val (.int (3 : Int32)), .val (.ref b101), .val (.int (1 : Int32)), .val (.ref r114)] [(.int (StrChars.pairCh (StrChars.lo8 c1) (StrChars.hi8 c1)))])) st116 ?_
      rw [StrChars.pair_says hp1.1 hp1.2]
      refine own_st (S' := T116.setTop (mkF m 56 #[.val (.ref b0), .val (.int (0 : Int32)), .val (.int (3 : Int32)), .val (.ref b101), .val (.int (1 : Int32)), .val (.ref r114)] [(.ref r114)])) (fun _ k => XS.sipush X116.here hx rfl (hb hby own_d_jdk_52_method_16_code_35) (XS.icmpYes X116.here hx rfl (pc0 := 38) (pc' := 54) rfl (hb hby own_d_jdk_52_method_16_code_38) rfl (tlt hb104).2.2.1 (by decide) (by decide) (XS.aload X116.here hx rfl (hb hby own_d_jdk_52_method_16_code_54) rfl rfl k))) ?_
      have XE117 : Ext h0 h114 := (own_xt (own_xk E101 K104 (allS (Nat.le_of_eq g101.symm) all0)) E114)
      refine own_ret X116 hx hret hlk rfl (Or.inr (Or.inr (Or.inr (Or.inr ⟨rfl, rfl, rfl⟩)))) (hb hby own_d_jdk_52_method_16_code_56) (by decide) (by decide) ?_
      rw [e116]
      exact ⟨r114, kr114, rfl, N116, XE117, (Nat.le_trans (Nat.le_trans E101.1 K104.1) g114), Or.inr ⟨Or.inr (Or.inl hb104), V114⟩⟩
    · refine own_st (S' := T104.setTop (mkF m 12 #[.val (.ref b0), .val (.int (0 : Int32)), .val (.int (3 : Int32)), .val (.ref b101), .unset, .unset] [(.int (2 : Int32))])) st104 ?_
      refine own_st (S' := T104.setTop (mkF m 20 #[.val (.ref b0), .val (.int (0 : Int32)), .val (.int (3 : Int32)), .val (.ref b101), .val (.int (2 : Int32)), .unset] [])) (fun _ k => XS.istore X104.here hx rfl (hb hby own_d_jdk_52_method_16_code_12) rfl (l' := #[.val (.ref b0), .val (.int (0 : Int32)), .val (.int (3 : Int32)), .val (.ref b101), .val (.int (2 : Int32)), .unset]) rfl (XS.iload X104.here hx rfl (hb hby own_d_jdk_52_method_16_code_14) rfl (XS.iloadN X104.here hx rfl (hb hby own_d_jdk_52_method_16_code_16) rfl (XS.icmpNo X104.here hx rfl (hb hby own_d_jdk_52_method_16_code_17) rfl (by decide) k)))) ?_
      refine own_st (S' := T104.setTop (mkF m 23 #[.val (.ref b0), .val (.int (0 : Int32)), .val (.int (3 : Int32)), .val (.ref b101), .val (.int (2 : Int32)), .unset] [(.int (3 : Int32)), (.int (0 : Int32)), (.ref b0)])) (fun _ k => XS.aloadN X104.here hx rfl (hb hby own_d_jdk_52_method_16_code_20) rfl rfl (XS.iloadN X104.here hx rfl (hb hby own_d_jdk_52_method_16_code_21) rfl (XS.iloadN X104.here hx rfl (hb hby own_d_jdk_52_method_16_code_22) rfl k))) ?_
      have V118 : Arv Z h104 b0 kc .char (3 : Int32) [(.int c0), (.int c1), (.int c2)] (.int (0 : Int32)) := (V102.keep K104 (ninS (Nat.ne_of_lt (Nat.lt_of_lt_of_le V1.lt (Nat.le_of_eq g101.symm))) nin0))
      have XO119 : Old Z n0 h104 := (XO103.keep K104 (allS (Nat.le_trans Z0 (Nat.le_of_eq g101.symm)) all0))
      obtain ⟨_, _, ⟨T120, L120, k120, n120⟩, -, X120, ⟨Lc120, hQ120, l120, y120, z120⟩, st120⟩ := Jvm.LawKit.callS X104 hx (y := (⟨"java/lang/StringUTF16", "toBytes", "([CII)[B"⟩ : MethodName)) hown (mvT hZ (hw _ own_w76)) (mvT hZ (hw _ own_w77)) (mvT hZ (hw _ own_w22)) (mvT hZ (hw _ own_w78)) (by decide) (backOf (W := 0) (own_rm_tob3 l Z a0 hw G1 S1 P1 G3 S3 P3 S4 S5 S6 [] b0 kc c0 c1 c2 h104 n0 (Nat.le_trans Z0 (Nat.le_trans E101.1 K104.1)) XO119 V118) hZ (hw _ own_w78) (hw _ own_w22) (by decide) (by decide)) (g := (mkF m 23 #[.val (.ref b0), .val (.int (0 : Int32)), .val (.int (3 : Int32)), .val (.ref b101), .val (.int (2 : Int32)), .unset] [(.int (3 : Int32)), (.int (0 : Int32)), (.ref b0)])) rfl (by rw [hml]; rfl) (argsL := [(.ref b0), (.int (0 : Int32)), (.int (3 : Int32))]) (rest := []) (lenOf own_pd10 rfl) rfl (by show 2 * 0 + _ ≤ _; exact Nat.le_of_eq rfl) (hb hby own_d_jdk_52_method_16_code_23) (fun _ _ => ⟨rfl, e104, (by decide : 1 + 1 ≤ _), (by decide : 3 + 6 ≤ _)⟩)
      dsimp only [Pt.U, Pt.locs, Pt.cells, Pt.slots] at X120 l120 y120 z120 st120 hQ120
      subst l120 y120 z120
      obtain ⟨r120, kr120, rfl, M120, E120, g120, V120⟩ := hQ120
      have N120 := Fr.app N104 M120
      obtain ⟨h120, e120⟩ : ∃ z, T120.heap = z := ⟨_, rfl⟩
      rw [e120] at E120 V120
      refine own_st (S' := T120.setTop (mkF m 26 #[.val (.ref b0), .val (.int (0 : Int32)), .val (.int (3 : Int32)), .val (.ref b101), .val (.int (2 : Int32)), .unset] [(.ref r120)])) st120 ?_
      refine own_st (S' := T120.setTop (mkF m 32 #[.val (.ref b0), .val (.int (0 : Int32)), .val (.int (3 : Int32)), .val (.ref b101), .val (.int (2 : Int32)), .val (.ref r120)] [(.int (2 : Int32)), (.ref r120)])) (fun _ k => XS.astore X120.here hx rfl (hb hby own_d_jdk_52_method_16_code_26) rfl rfl (l' := #[.val (.ref b0), .val (.int (0 : Int32)), .val (.int (3 : Int32)), .val (.ref b101), .val (.int (2 : Int32)), .val (.ref r120)]) rfl (XS.aload X120.here hx rfl (hb hby own_d_jdk_52_method_16_code_28) rfl rfl (XS.iload X120.here hx rfl (hb hby own_d_jdk_52_method_16_code_30) rfl k))) ?_
      have XO121 : Old Z n0 h120 := (XO119.ext E120)
      obtain ⟨_, _, ⟨T122, L122, k122, n122⟩, -, X122, ⟨Lc122, hQ122, l122, y122, z122⟩, st122⟩ := Jvm.LawKit.callS X120 hx (y := (⟨"java/lang/StringUTF16", "getChar", "([BI)C"⟩ : MethodName)) hown (mvT hZ (hw _ own_w92)) (mvT hZ (hw _ own_w93)) (mvT hZ (hw _ own_w22)) (mvT hZ (hw _ own_w94)) (by decide) (backOf (W := 0) (own_rm_getc l Z a0 hw G1 S1 P1 G3 S3 P3 S4 S5 S6 [] r120 (2 : Int32) (4 : Int32) (6 : Int32) (StrChars.lo8 c2) (StrChars.hi8 c2) kr120 _ h120 n0 (Nat.le_trans Z0 (Nat.le_trans (Nat.le_trans E101.1 K104.1) E120.1)) XO121 V120 (by decide) ⟨by decide, by decide⟩ ⟨by decide, by decide⟩ rfl rfl) hZ (hw _ own_w94) (hw _ own_w22) (by decide) (by decide)) (g := (mkF m 32 #[.val (.ref b0), .val (.int (0 : Int32)), .val (.int (3 : Int32)), .val (.ref b101), .val (.int (2 : Int32)), .val (.ref r120)] [(.int (2 : Int32)), (.ref r120)])) rfl (by rw [hml]; rfl) (argsL := [(.ref r120), (.int (2 : Int32))]) (rest := []) (lenOf own_pd4 rfl) rfl (by show 2 * 0 + _ ≤ _; exact Nat.le_of_eq rfl) (hb hby own_d_jdk_52_method_16_code_32) (fun _ _ => ⟨rfl, e120, (by decide : 2 + 0 ≤ _), (by decide : 9 + 0 ≤ _)⟩)
      dsimp only [Pt.U, Pt.locs, Pt.cells, Pt.slots] at X122 l122 y122 z122 st122 hQ122
      subst l122 y122 z122
      obtain ⟨rfl, M122, e122⟩ := hQ122
      have N122 := Fr.app N120 M122
      refine own_st (S' := T122.setTop (mkF m 35 #[.val (.ref b0), .val (.int (0 : Int32)), .val (.int (3 : Int32)), .val (.ref b101), .val (.int (2 : Int32)), .val (.ref r120)] [(.int (StrChars.pairCh (StrChars.lo8 c2) (StrChars.hi8 c2)))])) st122 ?_
      rw [StrChars.pair_says hp2.1 hp2.2]
      refine own_st (S' := T122.setTop (mkF m 56 #[.val (.ref b0), .val (.int (0 : Int32)), .val (.int (3 : Int32)), .val (.ref b101), .val (.int (2 : Int32)), .val (.ref r120)] [(.ref r120)])) (fun _ k => XS.sipush X122.here hx rfl (hb hby own_d_jdk_52_method_16_code_35) (XS.icmpYes X122.here hx rfl (pc0 := 38) (pc' := 54) rfl (hb hby own_d_jdk_52_method_16_code_38) rfl (tlt hb104).2.2.1 (by decide) (by decide) (XS.aload X122.here hx rfl (hb hby own_d_jdk_52_method_16_code_54) rfl rfl k))) ?_
      have XE123 : Ext h0 h120 := (own_xt (own_xk E101 K104 (allS (Nat.le_of_eq g101.symm) all0)) E120)
      refine own_ret X122 hx hret hlk rfl (Or.inr (Or.inr (Or.inr (Or.inr ⟨rfl, rfl, rfl⟩)))) (hb hby own_d_jdk_52_method_16_code_56) (by decide) (by decide) ?_
      rw [e122]
      exact ⟨r120, kr120, rfl, N122, XE123, (Nat.le_trans (Nat.le_trans E101.1 K104.1) g120), Or.inr ⟨Or.inr (Or.inr (hb104)), V120⟩⟩
def own_Q_in43 (Z : State) (x0 : Addr) (c0 c1 c2 : Int32) (h0 : Heap) (n0 : Nat) (v : Option Value) (h : Heap) (L : List Loc) : Prop := v = none ∧ Fr n0 L ∧ Keep h0 h [x0] ∧ own_Str Z h x0 [c0, c1, c2]
theorem own_ef_in43 (m : MethodId) (x0 : Addr) (b0 : Addr) : entryFrame m #[(.ref x0), (.ref b0), (.int (0 : Int32)), (.int (3 : Int32)), .null] 6 = mkF m 0 #[.val (.ref x0), .val (.ref b0), .val (.int (0 : Int32)), .val (.int (3 : Int32)), .val .null, .unset] [] := by first | (simp [entryFrame, mkF, argsToLocals, Value.category, maxLocals]; done) | rfl
set_option maxRecDepth 65536 in
set_option maxHeartbeats 40000000 in
theorem own_rm_in43 (l : Launch) (Z : State) (a0 : Array Value) (hw : ∀ d ∈ tables_1, d.before a0 Z = true) (G1 : Int32) (S1 : Sta Z Z.heap "java/lang/String" "COMPACT_STRINGS" "Z" (.int G1)) (P1 : ¬ G1 = 0) (G3 : Value) (S3 : Sta Z Z.heap "jdk/internal/util/Preconditions" "SIOOBE_FORMATTER" "Ljava/util/function/BiFunction;" G3) (P3 : G3.isRef = true) (S4 : Sta Z Z.heap "java/lang/StringUTF16" "$assertionsDisabled" "Z" (.int (1 : Int32))) (S5 : Sta Z Z.heap "java/lang/StringUTF16" "HI_BYTE_SHIFT" "I" (.int (0 : Int32))) (S6 : Sta Z Z.heap "java/lang/StringUTF16" "LO_BYTE_SHIFT" "I" (.int (8 : Int32))) (ws : List Jvm.Cond) (x0 b0 : Addr) (kc : ClassId) (c0 c1 c2 : Int32) (h0 : Heap) (n0 : Nat) (Z0 : n0 ≤ h0.size) (XO : Old Z n0 h0) (g0 : n0 ≤ x0) (E1 : Exa Z h0 x0 "java/lang/String") (F1 : Fld Z h0 x0 "java/lang/String" "value" "[B" .null) (F2 : Fld Z h0 x0 "java/lang/String" "coder" "B" (.int (0 : Int32))) (V1 : Arv Z h0 b0 kc .char (3 : Int32) [.int c0, .int c1, .int c2] (.int (0 : Int32))) (hp0 : ¬ c0 < 0 ∧ ¬ (65535 : Int32) < c0) (hp1 : ¬ c1 < 0 ∧ ¬ (65535 : Int32) < c1) (hp2 : ¬ c2 < 0 ∧ ¬ (65535 : Int32) < c2) :
    own_Met l Z h0 (⟨"java/lang/String", "<init>", "([CIILjava/lang/Void;)V"⟩ : MethodName) jdk_42_method_149_code 6 (none) ws { frames := 4, cells := 2, slots := 9, locals := 57 } #[(.ref x0), (.ref b0), (.int (0 : Int32)), (.int (3 : Int32)), .null] (own_Q_in43 Z x0 c0 c1 c2 h0 n0) := by
  refine own_enter (plainFor_of_name own_pn1) (fun p e s m below meth c s₁ hx hby hlk hml hown hnm hret hZ X0 e0 => ?_)
  have N0 := Fr.nil n0
  refine own_st (S' := s₁.setTop (mkF m 0 #[.val (.ref x0), .val (.ref b0), .val (.int (0 : Int32)), .val (.int (3 : Int32)), .val .null, .unset] [])) (fun _ k => castTop (own_ef_in43 m x0 b0) k) ?_
  refine own_st (S' := s₁.setTop (mkF m 1 #[.val (.ref x0), .val (.ref b0), .val (.int (0 : Int32)), .val (.int (3 : Int32)), .val .null, .unset] [(.ref x0)])) (fun _ k => XS.aloadN X0.here hx rfl (hb hby own_d_jdk_42_method_149_code_0) rfl rfl k) ?_
  obtain ⟨T101, X101, e101, st101⟩ := initO X0 hx hZ hown (hw _ own_w16) (hw _ own_w17) (hw _ own_w18) e0 (g := (mkF m 1 #[.val (.ref x0), .val (.ref b0), .val (.int (0 : Int32)), .val (.int (3 : Int32)), .val .null, .unset] [(.ref x0)])) rfl (by rw [hml]; rfl) rfl (hb hby own_d_jdk_42_method_149_code_1) (by decide) (W := 0) (by show 2 * 0 + _ ≤ _; exact Nat.le_of_eq rfl) (by decide)
  refine own_st (S' := T101.setTop (mkF m 4 #[.val (.ref x0), .val (.ref b0), .val (.int (0 : Int32)), .val (.int (3 : Int32)), .val .null, .unset] [])) st101 ?_
  refine own_st (S' := T101.setTop (mkF m 27 #[.val (.ref x0), .val (.ref b0), .val (.int (0 : Int32)), .val (.int (3 : Int32)), .val .null, .unset] [])) (fun _ k => XS.iloadN X101.here hx rfl (hb hby own_d_jdk_42_method_149_code_4) rfl (XS.ifYes X101.here hx rfl (pc0 := 5) (pc' := 27) rfl (hb hby own_d_jdk_42_method_149_code_5) rfl (by decide) (by decide) (by decide) k)) ?_
  have S102 : Sta Z h0 "java/lang/String" "COMPACT_STRINGS" "Z" (.int G1) := (S1.ext XO.2)
  obtain ⟨T103, X103, e103, st103⟩ := getS2 X101 hx hZ hown (host := "") (Or.inl (hw _ own_w19)) Via.refl e101 S102 (g := (mkF m 27 #[.val (.ref x0), .val (.ref b0), .val (.int (0 : Int32)), .val (.int (3 : Int32)), .val .null, .unset] [])) rfl (hb hby own_d_jdk_42_method_149_code_27)
  refine own_st (S' := T103.setTop (mkF m 30 #[.val (.ref x0), .val (.ref b0), .val (.int (0 : Int32)), .val (.int (3 : Int32)), .val .null, .unset] [(.int G1)])) st103 ?_
  refine own_st (S' := T103.setTop (mkF m 36 #[.val (.ref x0), .val (.ref b0), .val (.int (0 : Int32)), .val (.int (3 : Int32)), .val .null, .unset] [(.int (3 : Int32)), (.int (0 : Int32)), (.ref b0)])) (fun _ k => XS.ifNo X103.here hx rfl (hb hby own_d_jdk_42_method_149_code_30) rfl ((if0 _ _).trans (feq P1).1) (XS.aloadN X103.here hx rfl (hb hby own_d_jdk_42_method_149_code_33) rfl rfl (XS.iloadN X103.here hx rfl (hb hby own_d_jdk_42_method_149_code_34) rfl (XS.iloadN X103.here hx rfl (hb hby own_d_jdk_42_method_149_code_35) rfl k)))) ?_
  obtain ⟨_, _, ⟨T104, L104, k104, n104⟩, -, X104, ⟨Lc104, hQ104, l104, y104, z104⟩, st104⟩ := Jvm.LawKit.callS X103 hx (y := (⟨"java/lang/StringUTF16", "compress", "([CII)[B"⟩ : MethodName)) hown (mvT hZ (hw _ own_w20)) (mvT hZ (hw _ own_w21)) (mvT hZ (hw _ own_w22)) (mvT hZ (hw _ own_w23)) (by decide) (backOf (W := 0) (own_rm_cm33 l Z a0 hw G1 S1 P1 G3 S3 P3 S4 S5 S6 [] b0 kc c0 c1 c2 h0 n0 (Nat.le_trans Z0 (Nat.le_refl _)) XO V1 hp0 hp1 hp2) hZ (hw _ own_w23) (hw _ own_w22) (by decide) (by decide)) (g := (mkF m 36 #[.val (.ref x0), .val (.ref b0), .val (.int (0 : Int32)), .val (.int (3 : Int32)), .val .null, .unset] [(.int (3 : Int32)), (.int (0 : Int32)), (.ref b0)])) rfl (by rw [hml]; rfl) (argsL := [(.ref b0), (.int (0 : Int32)), (.int (3 : Int32))]) (rest := []) (lenOf own_pd10 rfl) rfl (by show 2 * 0 + _ ≤ _; exact Nat.le_of_eq rfl) (hb hby own_d_jdk_42_method_149_code_36) (fun _ _ => ⟨rfl, e103, (by decide : 0 + 2 ≤ _), (by decide : 0 + 9 ≤ _)⟩)
  dsimp only [Pt.U, Pt.locs, Pt.cells, Pt.slots] at X104 l104 y104 z104 st104 hQ104
  subst l104 y104 z104
  obtain ⟨r104, kr104, rfl, M104, E104, g104, o104⟩ := hQ104
  have N104 := Fr.app N0 M104
  obtain ⟨h104, e104⟩ : ∃ z, T104.heap = z := ⟨_, rfl⟩
  rw [e104] at E104 o104
  rcases o104 with ⟨hs104, V104⟩ | ⟨hs104, V104⟩
  · refine own_st (S' := T104.setTop (mkF m 39 #[.val (.ref x0), .val (.ref b0), .val (.int (0 : Int32)), .val (.int (3 : Int32)), .val .null, .unset] [(.ref r104)])) st104 ?_
    refine own_st (S' := T104.setTop (mkF m 45 #[.val (.ref x0), .val (.ref b0), .val (.int (0 : Int32)), .val (.int (3 : Int32)), .val .null, .val (.ref r104)] [(.int (3 : Int32)), (.ref r104), (.ref x0)])) (fun _ k => XS.astore X104.here hx rfl (hb hby own_d_jdk_42_method_149_code_39) rfl rfl (l' := #[.val (.ref x0), .val (.ref b0), .val (.int (0 : Int32)), .val (.int (3 : Int32)), .val .null, .val (.ref r104)]) rfl (XS.aloadN X104.here hx rfl (hb hby own_d_jdk_42_method_149_code_41) rfl rfl (XS.aload X104.here hx rfl (hb hby own_d_jdk_42_method_149_code_42) rfl rfl (XS.iloadN X104.here hx rfl (hb hby own_d_jdk_42_method_149_code_44) rfl k)))) ?_
    have XO105 : Old Z n0 h104 := (XO.ext E104)
    obtain ⟨_, _, ⟨T106, L106, k106, n106⟩, -, X106, ⟨Lc106, hQ106, l106, y106, z106⟩, st106⟩ := Jvm.LawKit.callS X104 hx (y := (⟨"java/lang/StringUTF16", "coderFromArrayLen", "([BI)B"⟩ : MethodName)) hown (mvT hZ (hw _ own_w28)) (mvT hZ (hw _ own_w29)) (mvT hZ (hw _ own_w22)) (mvT hZ (hw _ own_w30)) (by decide) (backOf (W := 1) (own_rm_cod33 l Z a0 hw G1 S1 P1 G3 S3 P3 S4 S5 S6 [] r104 kr104 _ h104 n0 (Nat.le_trans Z0 E104.1) XO105 V104) hZ (hw _ own_w30) (hw _ own_w22) (by decide) (by decide)) (g := (mkF m 45 #[.val (.ref x0), .val (.ref b0), .val (.int (0 : Int32)), .val (.int (3 : Int32)), .val .null, .val (.ref r104)] [(.int (3 : Int32)), (.ref r104), (.ref x0)])) rfl (by rw [hml]; rfl) (argsL := [(.ref r104), (.int (3 : Int32))]) (rest := [(.ref x0)]) (lenOf own_pd11 rfl) rfl (by show 2 * 0 + _ ≤ _; exact Nat.le_of_eq rfl) (hb hby own_d_jdk_42_method_149_code_45) (fun _ _ => ⟨rfl, e104, (by decide : 2 + 0 ≤ _), (by decide : 9 + 0 ≤ _)⟩)
    dsimp only [Pt.U, Pt.locs, Pt.cells, Pt.slots] at X106 l106 y106 z106 st106 hQ106
    subst l106 y106 z106
    obtain ⟨rfl, M106, e106⟩ := hQ106
    have N106 := Fr.app N104 M106
    refine own_st (S' := T106.setTop (mkF m 48 #[.val (.ref x0), .val (.ref b0), .val (.int (0 : Int32)), .val (.int (3 : Int32)), .val .null, .val (.ref r104)] [(.int (0 : Int32)), (.ref x0)])) st106 ?_
    have F107 : Fld Z h104 x0 "java/lang/String" "coder" "B" (.int (0 : Int32)) := (F2.ext E104)
    have A108 : Exa Z h104 x0 "java/lang/String" := (E1.ext E104)
    obtain ⟨T109, h109, X109, e109, W109, st109⟩ := putF X106 hx hZ hown (host := "") (Or.inl (hw _ own_w31)) Via.refl e106 F107 A108 (Or.inr ⟨(hw _ own_w32), rfl, hnm⟩) (hw _ own_w7) (ty := .byte) (by decide) rfl rfl (g := (mkF m 48 #[.val (.ref x0), .val (.ref b0), .val (.int (0 : Int32)), .val (.int (3 : Int32)), .val .null, .val (.ref r104)] [(.int (0 : Int32)), (.ref x0)])) rfl rfl (hb hby own_d_jdk_42_method_149_code_48)
    have N109 := Fr.snoc X109 N106 g0
    refine own_st (S' := T109.setTop (mkF m 51 #[.val (.ref x0), .val (.ref b0), .val (.int (0 : Int32)), .val (.int (3 : Int32)), .val .null, .val (.ref r104)] [])) st109 ?_
    refine own_st (S' := T109.setTop (mkF m 54 #[.val (.ref x0), .val (.ref b0), .val (.int (0 : Int32)), .val (.int (3 : Int32)), .val .null, .val (.ref r104)] [(.ref r104), (.ref x0)])) (fun _ k => XS.aloadN X109.here hx rfl (hb hby own_d_jdk_42_method_149_code_51) rfl rfl (XS.aload X109.here hx rfl (hb hby own_d_jdk_42_method_149_code_52) rfl rfl k)) ?_
    have F110 : Fld Z h109 x0 "java/lang/String" "value" "[B" .null := ((F1.ext E104).other W109 (Or.inr (slot_ne (Or.inr (hw _ own_w34)) (Or.inr (hw _ own_w32)) (by decide) (t := (.array .byte)) (t' := .byte) (by decide) (by decide))))
    have A111 : Exa Z h109 x0 "java/lang/String" := (A108.wr W109)
    obtain ⟨T112, h112, X112, e112, W112, st112⟩ := putF X109 hx hZ hown (host := "") (Or.inl (hw _ own_w33)) Via.refl e109 F110 A111 (Or.inr ⟨(hw _ own_w34), rfl, hnm⟩) (hw _ own_w7) (ty := (.array .byte)) (by decide) rfl rfl (g := (mkF m 54 #[.val (.ref x0), .val (.ref b0), .val (.int (0 : Int32)), .val (.int (3 : Int32)), .val .null, .val (.ref r104)] [(.ref r104), (.ref x0)])) rfl rfl (hb hby own_d_jdk_42_method_149_code_54)
    have N112 := Fr.snoc X112 N109 g0
    refine own_st (S' := T112.setTop (mkF m 57 #[.val (.ref x0), .val (.ref b0), .val (.int (0 : Int32)), .val (.int (3 : Int32)), .val .null, .val (.ref r104)] [])) st112 ?_
    have hal : ∀ c ∈ [c0, c1, c2], ¬ c < 0 ∧ ¬ (65535 : Int32) < c := by
      intro c hc
      simp only [List.mem_cons, List.not_mem_nil, or_false] at hc
      rcases hc with rfl | rfl | rfl
      · exact hp0
      · exact hp1
      · exact hp2
    have hcod : StrChars.Road.CodA [c0, c1, c2] 0 (3 : Int32) [.int (StrChars.lo8 c0), .int (StrChars.lo8 c1), .int (StrChars.lo8 c2)] := Or.inl ⟨rfl, rfl, rfl, by
      intro c hc
      simp only [List.mem_cons, List.not_mem_nil, or_false] at hc
      rcases hc with rfl | rfl | rfl
      · exact hs104.1
      · exact hs104.2.1
      · exact hs104.2.2⟩
    have A113 : Exa Z h112 x0 "java/lang/String" := (A111.wr W112)
    have F114 : Fld Z h112 x0 "java/lang/String" "coder" "B" (.int (0 : Int32)) := ((F107.same W109).other W112 (Or.inr (slot_ne (Or.inr (hw _ own_w32)) (Or.inr (hw _ own_w34)) (by decide) (t := .byte) (t' := (.array .byte)) (by decide) (by decide))))
    have V115 : Arv Z h112 r104 kr104 .byte (3 : Int32) [(.int (StrChars.lo8 c0)), (.int (StrChars.lo8 c1)), (.int (StrChars.lo8 c2))] (.int (0 : Int32)) := ((V104.other W109 (Ne.symm (Nat.ne_of_lt (Nat.lt_of_lt_of_le E1.lt g104)))).other W112 (Ne.symm (Nat.ne_of_lt (Nat.lt_of_lt_of_le E1.lt g104))))
    refine own_ret0 X112 hx hret hlk (hb hby own_d_jdk_42_method_149_code_57) (by decide) (by decide) ?_
    rw [e112]
    exact ⟨rfl, N112, ((((Keep.refl _ _).ext E104).wr W109 (Or.inl (List.mem_of_getElem? (i := 0) rfl))).wr W112 (Or.inl (List.mem_of_getElem? (i := 0) rfl))), r104, _, _, _, _, A113, (F110.same W112), F114, V115, hcod, hal, Nat.le_of_ble_eq_true rfl⟩
  · refine own_st (S' := T104.setTop (mkF m 39 #[.val (.ref x0), .val (.ref b0), .val (.int (0 : Int32)), .val (.int (3 : Int32)), .val .null, .unset] [(.ref r104)])) st104 ?_
    refine own_st (S' := T104.setTop (mkF m 45 #[.val (.ref x0), .val (.ref b0), .val (.int (0 : Int32)), .val (.int (3 : Int32)), .val .null, .val (.ref r104)] [(.int (3 : Int32)), (.ref r104), (.ref x0)])) (fun _ k => XS.astore X104.here hx rfl (hb hby own_d_jdk_42_method_149_code_39) rfl rfl (l' := #[.val (.ref x0), .val (.ref b0), .val (.int (0 : Int32)), .val (.int (3 : Int32)), .val .null, .val (.ref r104)]) rfl (XS.aloadN X104.here hx rfl (hb hby own_d_jdk_42_method_149_code_41) rfl rfl (XS.aload X104.here hx rfl (hb hby own_d_jdk_42_method_149_code_42) rfl rfl (XS.iloadN X104.here hx rfl (hb hby own_d_jdk_42_method_149_code_44) rfl k)))) ?_
    have XO116 : Old Z n0 h104 := (XO.ext E104)
    obtain ⟨_, _, ⟨T117, L117, k117, n117⟩, -, X117, ⟨Lc117, hQ117, l117, y117, z117⟩, st117⟩ := Jvm.LawKit.callS X104 hx (y := (⟨"java/lang/StringUTF16", "coderFromArrayLen", "([BI)B"⟩ : MethodName)) hown (mvT hZ (hw _ own_w28)) (mvT hZ (hw _ own_w29)) (mvT hZ (hw _ own_w22)) (mvT hZ (hw _ own_w30)) (by decide) (backOf (W := 1) (own_rm_cod36 l Z a0 hw G1 S1 P1 G3 S3 P3 S4 S5 S6 [] r104 kr104 _ h104 n0 (Nat.le_trans Z0 E104.1) XO116 V104) hZ (hw _ own_w30) (hw _ own_w22) (by decide) (by decide)) (g := (mkF m 45 #[.val (.ref x0), .val (.ref b0), .val (.int (0 : Int32)), .val (.int (3 : Int32)), .val .null, .val (.ref r104)] [(.int (3 : Int32)), (.ref r104), (.ref x0)])) rfl (by rw [hml]; rfl) (argsL := [(.ref r104), (.int (3 : Int32))]) (rest := [(.ref x0)]) (lenOf own_pd11 rfl) rfl (by show 2 * 0 + _ ≤ _; exact Nat.le_of_eq rfl) (hb hby own_d_jdk_42_method_149_code_45) (fun _ _ => ⟨rfl, e104, (by decide : 2 + 0 ≤ _), (by decide : 9 + 0 ≤ _)⟩)
    dsimp only [Pt.U, Pt.locs, Pt.cells, Pt.slots] at X117 l117 y117 z117 st117 hQ117
    subst l117 y117 z117
    obtain ⟨rfl, M117, e117⟩ := hQ117
    have N117 := Fr.app N104 M117
    refine own_st (S' := T117.setTop (mkF m 48 #[.val (.ref x0), .val (.ref b0), .val (.int (0 : Int32)), .val (.int (3 : Int32)), .val .null, .val (.ref r104)] [(.int (1 : Int32)), (.ref x0)])) st117 ?_
    have F118 : Fld Z h104 x0 "java/lang/String" "coder" "B" (.int (0 : Int32)) := (F2.ext E104)
    have A119 : Exa Z h104 x0 "java/lang/String" := (E1.ext E104)
    obtain ⟨T120, h120, X120, e120, W120, st120⟩ := putF X117 hx hZ hown (host := "") (Or.inl (hw _ own_w31)) Via.refl e117 F118 A119 (Or.inr ⟨(hw _ own_w32), rfl, hnm⟩) (hw _ own_w7) (ty := .byte) (by decide) rfl rfl (g := (mkF m 48 #[.val (.ref x0), .val (.ref b0), .val (.int (0 : Int32)), .val (.int (3 : Int32)), .val .null, .val (.ref r104)] [(.int (1 : Int32)), (.ref x0)])) rfl rfl (hb hby own_d_jdk_42_method_149_code_48)
    have N120 := Fr.snoc X120 N117 g0
    refine own_st (S' := T120.setTop (mkF m 51 #[.val (.ref x0), .val (.ref b0), .val (.int (0 : Int32)), .val (.int (3 : Int32)), .val .null, .val (.ref r104)] [])) st120 ?_
    refine own_st (S' := T120.setTop (mkF m 54 #[.val (.ref x0), .val (.ref b0), .val (.int (0 : Int32)), .val (.int (3 : Int32)), .val .null, .val (.ref r104)] [(.ref r104), (.ref x0)])) (fun _ k => XS.aloadN X120.here hx rfl (hb hby own_d_jdk_42_method_149_code_51) rfl rfl (XS.aload X120.here hx rfl (hb hby own_d_jdk_42_method_149_code_52) rfl rfl k)) ?_
    have F121 : Fld Z h120 x0 "java/lang/String" "value" "[B" .null := ((F1.ext E104).other W120 (Or.inr (slot_ne (Or.inr (hw _ own_w34)) (Or.inr (hw _ own_w32)) (by decide) (t := (.array .byte)) (t' := .byte) (by decide) (by decide))))
    have A122 : Exa Z h120 x0 "java/lang/String" := (A119.wr W120)
    obtain ⟨T123, h123, X123, e123, W123, st123⟩ := putF X120 hx hZ hown (host := "") (Or.inl (hw _ own_w33)) Via.refl e120 F121 A122 (Or.inr ⟨(hw _ own_w34), rfl, hnm⟩) (hw _ own_w7) (ty := (.array .byte)) (by decide) rfl rfl (g := (mkF m 54 #[.val (.ref x0), .val (.ref b0), .val (.int (0 : Int32)), .val (.int (3 : Int32)), .val .null, .val (.ref r104)] [(.ref r104), (.ref x0)])) rfl rfl (hb hby own_d_jdk_42_method_149_code_54)
    have N123 := Fr.snoc X123 N120 g0
    refine own_st (S' := T123.setTop (mkF m 57 #[.val (.ref x0), .val (.ref b0), .val (.int (0 : Int32)), .val (.int (3 : Int32)), .val .null, .val (.ref r104)] [])) st123 ?_
    have hal : ∀ c ∈ [c0, c1, c2], ¬ c < 0 ∧ ¬ (65535 : Int32) < c := by
      intro c hc
      simp only [List.mem_cons, List.not_mem_nil, or_false] at hc
      rcases hc with rfl | rfl | rfl
      · exact hp0
      · exact hp1
      · exact hp2
    have hcod : StrChars.Road.CodA [c0, c1, c2] 1 (6 : Int32) [.int (StrChars.lo8 c0), .int (StrChars.hi8 c0), .int (StrChars.lo8 c1), .int (StrChars.hi8 c1), .int (StrChars.lo8 c2), .int (StrChars.hi8 c2)] := Or.inr ⟨rfl, rfl, rfl, by
      rcases hs104 with q | q | q
      · exact ⟨_, List.mem_of_getElem? (i := 0) rfl, q⟩
      · exact ⟨_, List.mem_of_getElem? (i := 1) rfl, q⟩
      · exact ⟨_, List.mem_of_getElem? (i := 2) rfl, q⟩⟩
    have A124 : Exa Z h123 x0 "java/lang/String" := (A122.wr W123)
    have F125 : Fld Z h123 x0 "java/lang/String" "coder" "B" (.int (1 : Int32)) := ((F118.same W120).other W123 (Or.inr (slot_ne (Or.inr (hw _ own_w32)) (Or.inr (hw _ own_w34)) (by decide) (t := .byte) (t' := (.array .byte)) (by decide) (by decide))))
    have V126 : Arv Z h123 r104 kr104 .byte (6 : Int32) [(.int (StrChars.lo8 c0)), (.int (StrChars.hi8 c0)), (.int (StrChars.lo8 c1)), (.int (StrChars.hi8 c1)), (.int (StrChars.lo8 c2)), (.int (StrChars.hi8 c2))] (.int (0 : Int32)) := ((V104.other W120 (Ne.symm (Nat.ne_of_lt (Nat.lt_of_lt_of_le E1.lt g104)))).other W123 (Ne.symm (Nat.ne_of_lt (Nat.lt_of_lt_of_le E1.lt g104))))
    refine own_ret0 X123 hx hret hlk (hb hby own_d_jdk_42_method_149_code_57) (by decide) (by decide) ?_
    rw [e123]
    exact ⟨rfl, N123, ((((Keep.refl _ _).ext E104).wr W120 (Or.inl (List.mem_of_getElem? (i := 0) rfl))).wr W123 (Or.inl (List.mem_of_getElem? (i := 0) rfl))), r104, _, _, _, _, A124, (F121.same W123), F125, V126, hcod, hal, Nat.le_of_ble_eq_true rfl⟩
def own_Q_in13 (Z : State) (x0 : Addr) (c0 c1 c2 : Int32) (h0 : Heap) (n0 : Nat) (v : Option Value) (h : Heap) (L : List Loc) : Prop := v = none ∧ Fr n0 L ∧ Keep h0 h [x0] ∧ own_Str Z h x0 [c0, c1, c2]
theorem own_ef_in13 (m : MethodId) (x0 : Addr) (b0 : Addr) : entryFrame m #[(.ref x0), (.ref b0)] 2 = mkF m 0 #[.val (.ref x0), .val (.ref b0)] [] := by first | (simp [entryFrame, mkF, argsToLocals, Value.category, maxLocals]; done) | rfl
set_option maxRecDepth 65536 in
set_option maxHeartbeats 40000000 in
theorem own_rm_in13 (l : Launch) (Z : State) (a0 : Array Value) (hw : ∀ d ∈ tables_1, d.before a0 Z = true) (G1 : Int32) (S1 : Sta Z Z.heap "java/lang/String" "COMPACT_STRINGS" "Z" (.int G1)) (P1 : ¬ G1 = 0) (G3 : Value) (S3 : Sta Z Z.heap "jdk/internal/util/Preconditions" "SIOOBE_FORMATTER" "Ljava/util/function/BiFunction;" G3) (P3 : G3.isRef = true) (S4 : Sta Z Z.heap "java/lang/StringUTF16" "$assertionsDisabled" "Z" (.int (1 : Int32))) (S5 : Sta Z Z.heap "java/lang/StringUTF16" "HI_BYTE_SHIFT" "I" (.int (0 : Int32))) (S6 : Sta Z Z.heap "java/lang/StringUTF16" "LO_BYTE_SHIFT" "I" (.int (8 : Int32))) (ws : List Jvm.Cond) (x0 b0 : Addr) (kc : ClassId) (c0 c1 c2 : Int32) (h0 : Heap) (n0 : Nat) (Z0 : n0 ≤ h0.size) (XO : Old Z n0 h0) (g0 : n0 ≤ x0) (E1 : Exa Z h0 x0 "java/lang/String") (F1 : Fld Z h0 x0 "java/lang/String" "value" "[B" .null) (F2 : Fld Z h0 x0 "java/lang/String" "coder" "B" (.int (0 : Int32))) (V1 : Arv Z h0 b0 kc .char (3 : Int32) [.int c0, .int c1, .int c2] (.int (0 : Int32))) (hp0 : ¬ c0 < 0 ∧ ¬ (65535 : Int32) < c0) (hp1 : ¬ c1 < 0 ∧ ¬ (65535 : Int32) < c1) (hp2 : ¬ c2 < 0 ∧ ¬ (65535 : Int32) < c2) :
    own_Met l Z h0 (⟨"java/lang/String", "<init>", "([C)V"⟩ : MethodName) jdk_42_method_3_code 2 (none) ws { frames := 5, cells := 2, slots := 9, locals := 74 } #[(.ref x0), (.ref b0)] (own_Q_in13 Z x0 c0 c1 c2 h0 n0) := by
  refine own_enter (plainFor_of_name own_pn1) (fun p e s m below meth c s₁ hx hby hlk hml hown hnm hret hZ X0 e0 => ?_)
  have N0 := Fr.nil n0
  refine own_st (S' := s₁.setTop (mkF m 0 #[.val (.ref x0), .val (.ref b0)] [])) (fun _ k => castTop (own_ef_in13 m x0 b0) k) ?_
  refine own_st (S' := s₁.setTop (mkF m 4 #[.val (.ref x0), .val (.ref b0)] [(.ref b0), (.int (0 : Int32)), (.ref b0), (.ref x0)])) (fun _ k => XS.aloadN X0.here hx rfl (hb hby own_d_jdk_42_method_3_code_0) rfl rfl (XS.aloadN X0.here hx rfl (hb hby own_d_jdk_42_method_3_code_1) rfl rfl (XS.iconst X0.here hx rfl (hb hby own_d_jdk_42_method_3_code_2) (XS.aloadN X0.here hx rfl (hb hby own_d_jdk_42_method_3_code_3) rfl rfl k)))) ?_
  obtain ⟨c101, A101, q101, S101, M101, H101, U101⟩ := id V1
  refine own_st (S' := s₁.setTop (mkF m 5 #[.val (.ref x0), .val (.ref b0)] [(.int (3 : Int32)), (.int (0 : Int32)), (.ref b0), (.ref x0)])) (len_of S101 M101 ▸ X0.arraylength hx (by rw [e0]; exact A101.1) (State.isArrayOf_alike hZ.alike A101.2.1) (g := (mkF m 4 #[.val (.ref x0), .val (.ref b0)] [(.ref b0), (.int (0 : Int32)), (.ref b0), (.ref x0)])) rfl rfl (hb hby own_d_jdk_42_method_3_code_4)) ?_
  refine own_st (S' := s₁.setTop (mkF m 6 #[.val (.ref x0), .val (.ref b0)] [.null, (.int (3 : Int32)), (.int (0 : Int32)), (.ref b0), (.ref x0)])) (fun _ k => XS.aconstNull X0.here hx rfl (hb hby own_d_jdk_42_method_3_code_5) k) ?_
  obtain ⟨_, _, ⟨T102, L102, k102, n102⟩, -, X102, ⟨Lc102, hQ102, l102, y102, z102⟩, st102⟩ := X0.specialBack hx (y := (⟨"java/lang/String", "<init>", "([CIILjava/lang/Void;)V"⟩ : MethodName)) rfl hown (mvT hZ (hw _ own_w12)) (mvT hZ (hw _ own_w13)) (mvT hZ (hw _ own_w15)) (by decide) (backOf (W := 0) (own_rm_in43 l Z a0 hw G1 S1 P1 G3 S3 P3 S4 S5 S6 [] x0 b0 kc c0 c1 c2 h0 n0 (Nat.le_trans Z0 (Nat.le_refl _)) XO g0 E1 F1 F2 V1 hp0 hp1 hp2) hZ (hw _ own_w15) (hw _ own_w8) (by decide) (by decide)) (g := (mkF m 6 #[.val (.ref x0), .val (.ref b0)] [.null, (.int (3 : Int32)), (.int (0 : Int32)), (.ref b0), (.ref x0)])) rfl (by rw [hml]; rfl) (Steps.refl _) (a := x0) (argsL := [(.ref b0), (.int (0 : Int32)), (.int (3 : Int32)), .null]) (rest := []) (lenOf own_pd12 rfl) rfl (by show 2 * 0 + _ ≤ _; exact Nat.le_of_eq rfl) (hb hby own_d_jdk_42_method_3_code_6) (fun _ _ => ⟨rfl, e0, (by decide : 0 + 2 ≤ _), (by decide : 0 + 9 ≤ _)⟩)
  dsimp only [Pt.U, Pt.locs, Pt.cells, Pt.slots] at X102 l102 y102 z102 st102 hQ102
  subst l102 y102 z102
  obtain ⟨rfl, M102, K102, Y102⟩ := hQ102
  have N102 := Fr.app N0 M102
  obtain ⟨h102, e102⟩ : ∃ z, T102.heap = z := ⟨_, rfl⟩
  rw [e102] at K102 Y102
  refine own_tr (S' := T102.setTop (mkF m 9 #[.val (.ref x0), .val (.ref b0)] [])) st102 ?_
  refine own_ret0 X102 hx hret hlk (hb hby own_d_jdk_42_method_3_code_9) (by decide) (by decide) ?_
  rw [e102]
  exact ⟨rfl, N102, K102, Y102⟩
def own_Q_make3 (Z : State) (c0 c1 c2 c3 : Int32) (h0 : Heap) (n0 : Nat) (v : Option Value) (h : Heap) (L : List Loc) : Prop := ∃ r, v = some (.ref r) ∧ Fr n0 L ∧ Ext h0 h ∧ h0.size ≤ r ∧ own_Str Z h r [c0, c1, c2]
theorem own_ef_make3 (m : MethodId) (c0 : Int32) (c1 : Int32) (c2 : Int32) (c3 : Int32) : entryFrame m #[(.int (3 : Int32)), (.int c0), (.int c1), (.int c2), (.int c3)] 6 = mkF m 0 #[.val (.int (3 : Int32)), .val (.int c0), .val (.int c1), .val (.int c2), .val (.int c3), .unset] [] := by first | (simp [entryFrame, mkF, argsToLocals, Value.category, maxLocals]; done) | rfl
set_option maxRecDepth 65536 in
set_option maxHeartbeats 40000000 in
theorem own_rm_make3 (l : Launch) (Z : State) (a0 : Array Value) (hw : ∀ d ∈ tables_1, d.before a0 Z = true) (G1 : Int32) (S1 : Sta Z Z.heap "java/lang/String" "COMPACT_STRINGS" "Z" (.int G1)) (P1 : ¬ G1 = 0) (G3 : Value) (S3 : Sta Z Z.heap "jdk/internal/util/Preconditions" "SIOOBE_FORMATTER" "Ljava/util/function/BiFunction;" G3) (P3 : G3.isRef = true) (S4 : Sta Z Z.heap "java/lang/StringUTF16" "$assertionsDisabled" "Z" (.int (1 : Int32))) (S5 : Sta Z Z.heap "java/lang/StringUTF16" "HI_BYTE_SHIFT" "I" (.int (0 : Int32))) (S6 : Sta Z Z.heap "java/lang/StringUTF16" "LO_BYTE_SHIFT" "I" (.int (8 : Int32))) (ws : List Jvm.Cond) (c0 c1 c2 c3 : Int32) (h0 : Heap) (n0 : Nat) (Z0 : n0 ≤ h0.size) (XO : Old Z n0 h0) (hp0 : ¬ c0 < 0 ∧ ¬ (65535 : Int32) < c0) (hn0 : nar .char c0 = c0) (hp1 : ¬ c1 < 0 ∧ ¬ (65535 : Int32) < c1) (hn1 : nar .char c1 = c1) (hp2 : ¬ c2 < 0 ∧ ¬ (65535 : Int32) < c2) (hn2 : nar .char c2 = c2) (hp3 : ¬ c3 < 0 ∧ ¬ (65535 : Int32) < c3) (hn3 : nar .char c3 = c3) :
    own_Met l Z h0 (⟨"com/example/sault/sault/ArgumentsLockNamePinLaw", "make", "(ICCCC)Ljava/lang/String;"⟩ : MethodName) method_3_code 6 (some (.object "java/lang/String")) ws { frames := 6, cells := 4, slots := 16, locals := 88 } #[(.int (3 : Int32)), (.int c0), (.int c1), (.int c2), (.int c3)] (own_Q_make3 Z c0 c1 c2 c3 h0 n0) := by
  refine own_enter (plainFor_of_name own_pn3) (fun p e s m below meth c s₁ hx hby hlk hml hown hnm hret hZ X0 e0 => ?_)
  have N0 := Fr.nil n0
  refine own_st (S' := s₁.setTop (mkF m 0 #[.val (.int (3 : Int32)), .val (.int c0), .val (.int c1), .val (.int c2), .val (.int c3), .unset] [])) (fun _ k => castTop (own_ef_make3 m c0 c1 c2 c3) k) ?_
  refine own_st (S' := s₁.setTop (mkF m 26 #[.val (.int (3 : Int32)), .val (.int c0), .val (.int c1), .val (.int c2), .val (.int c3), .unset] [(.int (3 : Int32))])) (fun _ k => XS.iloadN X0.here hx rfl (hb hby own_d_method_3_code_0) rfl (XS.iconst X0.here hx rfl (hb hby own_d_method_3_code_1) (XS.icmpYes X0.here hx rfl (pc0 := 2) (pc' := 25) rfl (hb hby own_d_method_3_code_2) rfl (by decide) (by decide) (by decide) (XS.iloadN X0.here hx rfl (hb hby own_d_method_3_code_25) rfl k)))) ?_
  refine own_st (S' := s₁.setTop (mkF m 57 #[.val (.int (3 : Int32)), .val (.int c0), .val (.int c1), .val (.int c2), .val (.int c3), .unset] [(.int (3 : Int32)), (.int (3 : Int32))])) (fun _ k => XS.iconst X0.here hx rfl (hb hby own_d_method_3_code_26) (XS.icmpYes X0.here hx rfl (pc0 := 27) (pc' := 55) rfl (hb hby own_d_method_3_code_27) rfl (by decide) (by decide) (by decide) (XS.iloadN X0.here hx rfl (hb hby own_d_method_3_code_55) rfl (XS.iconst X0.here hx rfl (hb hby own_d_method_3_code_56) k)))) ?_
  refine own_st (S' := s₁.setTop (mkF m 61 #[.val (.int (3 : Int32)), .val (.int c0), .val (.int c1), .val (.int c2), .val (.int c3), .unset] [(.int (3 : Int32))])) (fun _ k => XS.icmpNo X0.here hx rfl (hb hby own_d_method_3_code_57) rfl (by decide) (XS.iconst X0.here hx rfl (hb hby own_d_method_3_code_60) k)) ?_
  obtain ⟨T101, h101, k101, X101, e101, E101, A101, AE101, st101⟩ := newPE X0 hx hZ (aty := .char) (hw _ own_w5) e0 (g := (mkF m 61 #[.val (.int (3 : Int32)), .val (.int c0), .val (.int c1), .val (.int c2), .val (.int c3), .unset] [(.int (3 : Int32))])) rfl (hb hby own_d_method_3_code_61) rfl (by decide) (cap := 3) (by decide) (by decide) (by decide) (by decide) (ad := "[C") (by decide)
  obtain ⟨b101, g101⟩ : ∃ z, z = h0.size := ⟨_, rfl⟩
  rw [← g101] at A101 AE101 st101
  have V101 : Arv Z h101 b101 k101 .char (3 : Int32) [(.int (0 : Int32)), (.int (0 : Int32)), (.int (0 : Int32))] (.int (0 : Int32)) := (Arv.new A101 (by decide)).pad (pad_rep [] (.int (0 : Int32)) 3)
  refine own_st (S' := T101.setTop (mkF m 63 #[.val (.int (3 : Int32)), .val (.int c0), .val (.int c1), .val (.int c2), .val (.int c3), .unset] [(.ref b101)])) st101 ?_
  refine own_st (S' := T101.setTop (mkF m 69 #[.val (.int (3 : Int32)), .val (.int c0), .val (.int c1), .val (.int c2), .val (.int c3), .val (.ref b101)] [(.int c0), (.int (0 : Int32)), (.ref b101)])) (fun _ k => XS.astore X101.here hx rfl (hb hby own_d_method_3_code_63) rfl rfl (l' := #[.val (.int (3 : Int32)), .val (.int c0), .val (.int c1), .val (.int c2), .val (.int c3), .val (.ref b101)]) rfl (XS.aload X101.here hx rfl (hb hby own_d_method_3_code_65) rfl rfl (XS.iconst X101.here hx rfl (hb hby own_d_method_3_code_67) (XS.iloadN X101.here hx rfl (hb hby own_d_method_3_code_68) rfl k)))) ?_
  obtain ⟨c102, A102, q102, S102, M102, H102, U102⟩ := id V101
  obtain ⟨T102, h102, X102, e102, W102, st102⟩ := stC X101 hx hZ e101 A102 (j := (0 : Int32)) (inb_of S102 ⟨by decide, by decide⟩) (g := (mkF m 69 #[.val (.int (3 : Int32)), .val (.int c0), .val (.int c1), .val (.int c2), .val (.int c3), .val (.ref b101)] [(.int c0), (.int (0 : Int32)), (.ref b101)])) rfl rfl (hb hby own_d_method_3_code_69)
  have N102 := Fr.snoc X102 N0 (Nat.le_trans Z0 (Nat.le_of_eq g101.symm))
  have V102 : Arv Z h102 b101 k101 .char (3 : Int32) [(.int (nar .char c0)), (.int (0 : Int32)), (.int (0 : Int32))] (.int (0 : Int32)) := Arv.set A102 q102 S102 M102 H102 U102 (fits_nar_char _) W102 0 rfl (Nat.le_of_ble_eq_true rfl)
  refine own_st (S' := T102.setTop (mkF m 70 #[.val (.int (3 : Int32)), .val (.int c0), .val (.int c1), .val (.int c2), .val (.int c3), .val (.ref b101)] [])) st102 ?_
  refine own_st (S' := T102.setTop (mkF m 74 #[.val (.int (3 : Int32)), .val (.int c0), .val (.int c1), .val (.int c2), .val (.int c3), .val (.ref b101)] [(.int c1), (.int (1 : Int32)), (.ref b101)])) (fun _ k => XS.aload X102.here hx rfl (hb hby own_d_method_3_code_70) rfl rfl (XS.iconst X102.here hx rfl (hb hby own_d_method_3_code_72) (XS.iloadN X102.here hx rfl (hb hby own_d_method_3_code_73) rfl k))) ?_
  obtain ⟨c103, A103, q103, S103, M103, H103, U103⟩ := id V102
  obtain ⟨T103, h103, X103, e103, W103, st103⟩ := stC X102 hx hZ e102 A103 (j := (1 : Int32)) (inb_of S103 ⟨by decide, by decide⟩) (g := (mkF m 74 #[.val (.int (3 : Int32)), .val (.int c0), .val (.int c1), .val (.int c2), .val (.int c3), .val (.ref b101)] [(.int c1), (.int (1 : Int32)), (.ref b101)])) rfl rfl (hb hby own_d_method_3_code_74)
  have N103 := Fr.snoc X103 N102 (Nat.le_trans Z0 (Nat.le_of_eq g101.symm))
  have V103 : Arv Z h103 b101 k101 .char (3 : Int32) [(.int (nar .char c0)), (.int (nar .char c1)), (.int (0 : Int32))] (.int (0 : Int32)) := Arv.set A103 q103 S103 M103 H103 U103 (fits_nar_char _) W103 1 rfl (Nat.le_of_ble_eq_true rfl)
  refine own_st (S' := T103.setTop (mkF m 75 #[.val (.int (3 : Int32)), .val (.int c0), .val (.int c1), .val (.int c2), .val (.int c3), .val (.ref b101)] [])) st103 ?_
  refine own_st (S' := T103.setTop (mkF m 79 #[.val (.int (3 : Int32)), .val (.int c0), .val (.int c1), .val (.int c2), .val (.int c3), .val (.ref b101)] [(.int c2), (.int (2 : Int32)), (.ref b101)])) (fun _ k => XS.aload X103.here hx rfl (hb hby own_d_method_3_code_75) rfl rfl (XS.iconst X103.here hx rfl (hb hby own_d_method_3_code_77) (XS.iloadN X103.here hx rfl (hb hby own_d_method_3_code_78) rfl k))) ?_
  obtain ⟨c104, A104, q104, S104, M104, H104, U104⟩ := id V103
  obtain ⟨T104, h104, X104, e104, W104, st104⟩ := stC X103 hx hZ e103 A104 (j := (2 : Int32)) (inb_of S104 ⟨by decide, by decide⟩) (g := (mkF m 79 #[.val (.int (3 : Int32)), .val (.int c0), .val (.int c1), .val (.int c2), .val (.int c3), .val (.ref b101)] [(.int c2), (.int (2 : Int32)), (.ref b101)])) rfl rfl (hb hby own_d_method_3_code_79)
  have N104 := Fr.snoc X104 N103 (Nat.le_trans Z0 (Nat.le_of_eq g101.symm))
  have V104 : Arv Z h104 b101 k101 .char (3 : Int32) [(.int (nar .char c0)), (.int (nar .char c1)), (.int (nar .char c2))] (.int (0 : Int32)) := Arv.set A104 q104 S104 M104 H104 U104 (fits_nar_char _) W104 2 rfl (Nat.le_of_ble_eq_true rfl)
  refine own_st (S' := T104.setTop (mkF m 80 #[.val (.int (3 : Int32)), .val (.int c0), .val (.int c1), .val (.int c2), .val (.int c3), .val (.ref b101)] [])) st104 ?_
  obtain ⟨T105, h105, X105, e105, E105, A105, D105, -, st105⟩ := newO X104 hx hZ hown (hw _ own_w6) (hw _ own_w7) (hw _ own_w8) e104 (g := (mkF m 80 #[.val (.int (3 : Int32)), .val (.int c0), .val (.int c1), .val (.int c2), .val (.int c3), .val (.ref b101)] [])) rfl (hb hby own_d_method_3_code_80) (by decide) (by decide)
  obtain ⟨b105, g105⟩ : ∃ z, z = h104.size := ⟨_, rfl⟩
  rw [← g105] at A105 D105 st105
  refine own_st (S' := T105.setTop (mkF m 83 #[.val (.int (3 : Int32)), .val (.int c0), .val (.int c1), .val (.int c2), .val (.int c3), .val (.ref b101)] [(.ref b105)])) st105 ?_
  refine own_st (S' := T105.setTop (mkF m 86 #[.val (.int (3 : Int32)), .val (.int c0), .val (.int c1), .val (.int c2), .val (.int c3), .val (.ref b101)] [(.ref b101), (.ref b105), (.ref b105)])) (fun _ k => XS.dup X105.here hx rfl (hb hby own_d_method_3_code_83) rfl rfl (XS.aload X105.here hx rfl (hb hby own_d_method_3_code_84) rfl rfl k)) ?_
  have V106 : Arv Z h105 b101 k101 .char (3 : Int32) [(.int (nar .char c0)), (.int (nar .char c1)), (.int (nar .char c2))] (.int (0 : Int32)) := (V104.ext E105)
  have VC : Arv Z h105 b101 k101 .char (3 : Int32) [.int c0, .int c1, .int c2] (.int (0 : Int32)) := by have q := V106; rw [hn0, hn1, hn2] at q; exact q
  have XE107 : Ext h0 h105 := (own_xt (own_xw (own_xw (own_xw E101 W102 (Nat.le_of_eq g101.symm)) W103 (Nat.le_of_eq g101.symm)) W104 (Nat.le_of_eq g101.symm)) E105)
  have XO108 : Old Z n0 h105 := (XO.ext XE107)
  obtain ⟨_, _, ⟨T109, L109, k109, n109⟩, -, X109, ⟨Lc109, hQ109, l109, y109, z109⟩, st109⟩ := X105.specialBack hx (y := (⟨"java/lang/String", "<init>", "([C)V"⟩ : MethodName)) rfl hown (mvT hZ (hw _ own_w9)) (mvT hZ (hw _ own_w10)) (mvT hZ (hw _ own_w11)) (by decide) (backOf (W := 1) (own_rm_in13 l Z a0 hw G1 S1 P1 G3 S3 P3 S4 S5 S6 [] b105 b101 k101 c0 c1 c2 h105 n0 (Nat.le_trans Z0 (Nat.le_trans (Nat.le_trans (Nat.le_trans (Nat.le_trans E101.1 (Nat.le_of_eq W102.size.symm)) (Nat.le_of_eq W103.size.symm)) (Nat.le_of_eq W104.size.symm)) E105.1)) XO108 (Nat.le_trans Z0 (Nat.le_trans (Nat.le_trans (Nat.le_trans (Nat.le_trans E101.1 (Nat.le_of_eq W102.size.symm)) (Nat.le_of_eq W103.size.symm)) (Nat.le_of_eq W104.size.symm)) (Nat.le_of_eq g105.symm))) A105 (D105 (Or.inr (hw _ own_w34)) (ty := (.array .byte)) (by decide)) (D105 (Or.inr (hw _ own_w32)) (ty := .byte) (by decide)) VC hp0 hp1 hp2) hZ (hw _ own_w11) (hw _ own_w8) (by decide) (by decide)) (g := (mkF m 86 #[.val (.int (3 : Int32)), .val (.int c0), .val (.int c1), .val (.int c2), .val (.int c3), .val (.ref b101)] [(.ref b101), (.ref b105), (.ref b105)])) rfl (by rw [hml]; rfl) (Steps.refl _) (a := b105) (argsL := [(.ref b101)]) (rest := [(.ref b105)]) (lenOf own_pd13 rfl) rfl (by show 2 * 0 + _ ≤ _; exact Nat.le_of_eq rfl) (hb hby own_d_method_3_code_86) (fun _ _ => ⟨rfl, e105, (by decide : 2 + 2 ≤ _), (by decide : 7 + 9 ≤ _)⟩)
  dsimp only [Pt.U, Pt.locs, Pt.cells, Pt.slots] at X109 l109 y109 z109 st109 hQ109
  subst l109 y109 z109
  obtain ⟨rfl, M109, K109, Y109⟩ := hQ109
  have N109 := Fr.app N104 M109
  obtain ⟨h109, e109⟩ : ∃ z, T109.heap = z := ⟨_, rfl⟩
  rw [e109] at K109 Y109
  refine own_tr (S' := T109.setTop (mkF m 89 #[.val (.int (3 : Int32)), .val (.int c0), .val (.int c1), .val (.int c2), .val (.int c3), .val (.ref b101)] [(.ref b105)])) st109 ?_
  have XE110 : Ext h0 h109 := (own_xk XE107 K109 (allS (Nat.le_trans (Nat.le_trans (Nat.le_trans (Nat.le_trans E101.1 (Nat.le_of_eq W102.size.symm)) (Nat.le_of_eq W103.size.symm)) (Nat.le_of_eq W104.size.symm)) (Nat.le_of_eq g105.symm)) all0))
  refine own_ret X109 hx hret hlk rfl (Or.inr (Or.inr (Or.inr (Or.inr ⟨rfl, rfl, rfl⟩)))) (hb hby own_d_method_3_code_89) (by decide) (by decide) ?_
  rw [e109]
  exact ⟨b105, rfl, N109, XE110, (Nat.le_trans (Nat.le_trans (Nat.le_trans (Nat.le_trans E101.1 (Nat.le_of_eq W102.size.symm)) (Nat.le_of_eq W103.size.symm)) (Nat.le_of_eq W104.size.symm)) (Nat.le_of_eq g105.symm)), Y109⟩
def own_Q_nbl4 (Z : State) (h0 : Heap) (n0 : Nat) (v : Option Value) (h : Heap) (L : List Loc) : Prop := v = some (.int 8) ∧ Fr n0 L ∧ h = h0
theorem own_ef_nbl4 (m : MethodId) : entryFrame m #[(.int (4 : Int32))] 1 = mkF m 0 #[.val (.int (4 : Int32))] [] := by first | (simp [entryFrame, mkF, argsToLocals, Value.category, maxLocals]; done) | rfl
set_option maxRecDepth 65536 in
set_option maxHeartbeats 40000000 in
theorem own_rm_nbl4 (l : Launch) (Z : State) (a0 : Array Value) (hw : ∀ d ∈ tables_1, d.before a0 Z = true) (G1 : Int32) (S1 : Sta Z Z.heap "java/lang/String" "COMPACT_STRINGS" "Z" (.int G1)) (P1 : ¬ G1 = 0) (G3 : Value) (S3 : Sta Z Z.heap "jdk/internal/util/Preconditions" "SIOOBE_FORMATTER" "Ljava/util/function/BiFunction;" G3) (P3 : G3.isRef = true) (S4 : Sta Z Z.heap "java/lang/StringUTF16" "$assertionsDisabled" "Z" (.int (1 : Int32))) (S5 : Sta Z Z.heap "java/lang/StringUTF16" "HI_BYTE_SHIFT" "I" (.int (0 : Int32))) (S6 : Sta Z Z.heap "java/lang/StringUTF16" "LO_BYTE_SHIFT" "I" (.int (8 : Int32))) (ws : List Jvm.Cond) (h0 : Heap) (n0 : Nat) (Z0 : n0 ≤ h0.size) (XO : Old Z n0 h0) :
    own_Met l Z h0 (⟨"java/lang/StringUTF16", "newBytesLength", "(I)I"⟩ : MethodName) jdk_52_method_3_code 1 (some .int) ws { frames := 0, cells := 0, slots := 0, locals := 0 } #[(.int (4 : Int32))] (own_Q_nbl4 Z h0 n0) := by
  refine own_enter (plainFor_of_name own_pn2) (fun p e s m below meth c s₁ hx hby hlk hml hown hnm hret hZ X0 e0 => ?_)
  have N0 := Fr.nil n0
  refine own_st (S' := s₁.setTop (mkF m 0 #[.val (.int (4 : Int32))] [])) (fun _ k => castTop (own_ef_nbl4 m) k) ?_
  refine own_st (S' := s₁.setTop (mkF m 13 #[.val (.int (4 : Int32))] [(.int (4 : Int32))])) (fun _ k => XS.iloadN X0.here hx rfl (hb hby own_d_jdk_52_method_3_code_0) rfl (XS.ifYes X0.here hx rfl (pc0 := 1) (pc' := 12) rfl (hb hby own_d_jdk_52_method_3_code_1) rfl (by decide) (by decide) (by decide) (XS.iloadN X0.here hx rfl (hb hby own_d_jdk_52_method_3_code_12) rfl k))) ?_
  refine own_st (S' := s₁.setTop (mkF m 15 #[.val (.int (4 : Int32))] [(.int (1073741823 : Int32)), (.int (4 : Int32))])) (X0.ldcInt hx hown (mvT hZ (hw _ own_w85)) (g := (mkF m 13 #[.val (.int (4 : Int32))] [(.int (4 : Int32))])) rfl (hb hby own_d_jdk_52_method_3_code_13)) ?_
  refine own_st (S' := s₁.setTop (mkF m 58 #[.val (.int (4 : Int32))] [(.int ((4 : Int32) <<< ((1 : Int32) &&& 31)))])) (fun _ k => XS.icmpYes X0.here hx rfl (pc0 := 15) (pc' := 55) rfl (hb hby own_d_jdk_52_method_3_code_15) rfl (by decide) (by decide) (by decide) (XS.iloadN X0.here hx rfl (hb hby own_d_jdk_52_method_3_code_55) rfl (XS.iconst X0.here hx rfl (hb hby own_d_jdk_52_method_3_code_56) (XS.ishl X0.here hx rfl (hb hby own_d_jdk_52_method_3_code_57) rfl k)))) ?_
  rw [show ((4 : Int32) <<< ((1 : Int32) &&& 31)) = (8 : Int32) from by decide]
  refine own_ret X0 hx hret hlk rfl (Or.inl ⟨rfl, (by simp), _, rfl⟩) (hb hby own_d_jdk_52_method_3_code_58) (by decide) (by decide) ?_
  rw [e0]
  exact ⟨rfl, N0, rfl⟩
def own_Q_nbf4 (Z : State) (h0 : Heap) (n0 : Nat) (v : Option Value) (h : Heap) (L : List Loc) : Prop := ∃ (r : Addr) (k : ClassId), v = some (.ref r) ∧ Fr n0 L ∧ Ext h0 h ∧ h0.size ≤ r ∧ Arv Z h r k .byte (8 : Int32) [(.int (0 : Int32)), (.int (0 : Int32)), (.int (0 : Int32)), (.int (0 : Int32)), (.int (0 : Int32)), (.int (0 : Int32)), (.int (0 : Int32)), (.int (0 : Int32))] (.int (0 : Int32))
theorem own_ef_nbf4 (m : MethodId) : entryFrame m #[(.int (4 : Int32))] 1 = mkF m 0 #[.val (.int (4 : Int32))] [] := by first | (simp [entryFrame, mkF, argsToLocals, Value.category, maxLocals]; done) | rfl
set_option maxRecDepth 65536 in
set_option maxHeartbeats 40000000 in
theorem own_rm_nbf4 (l : Launch) (Z : State) (a0 : Array Value) (hw : ∀ d ∈ tables_1, d.before a0 Z = true) (G1 : Int32) (S1 : Sta Z Z.heap "java/lang/String" "COMPACT_STRINGS" "Z" (.int G1)) (P1 : ¬ G1 = 0) (G3 : Value) (S3 : Sta Z Z.heap "jdk/internal/util/Preconditions" "SIOOBE_FORMATTER" "Ljava/util/function/BiFunction;" G3) (P3 : G3.isRef = true) (S4 : Sta Z Z.heap "java/lang/StringUTF16" "$assertionsDisabled" "Z" (.int (1 : Int32))) (S5 : Sta Z Z.heap "java/lang/StringUTF16" "HI_BYTE_SHIFT" "I" (.int (0 : Int32))) (S6 : Sta Z Z.heap "java/lang/StringUTF16" "LO_BYTE_SHIFT" "I" (.int (8 : Int32))) (ws : List Jvm.Cond) (h0 : Heap) (n0 : Nat) (Z0 : n0 ≤ h0.size) (XO : Old Z n0 h0) :
    own_Met l Z h0 (⟨"java/lang/StringUTF16", "newBytesFor", "(I)[B"⟩ : MethodName) jdk_52_method_2_code 1 (some (.array .byte)) ws { frames := 1, cells := 1, slots := 8, locals := 12 } #[(.int (4 : Int32))] (own_Q_nbf4 Z h0 n0) := by
  refine own_enter (plainFor_of_name own_pn2) (fun p e s m below meth c s₁ hx hby hlk hml hown hnm hret hZ X0 e0 => ?_)
  have N0 := Fr.nil n0
  refine own_st (S' := s₁.setTop (mkF m 0 #[.val (.int (4 : Int32))] [])) (fun _ k => castTop (own_ef_nbf4 m) k) ?_
  refine own_st (S' := s₁.setTop (mkF m 1 #[.val (.int (4 : Int32))] [(.int (4 : Int32))])) (fun _ k => XS.iloadN X0.here hx rfl (hb hby own_d_jdk_52_method_2_code_0) rfl k) ?_
  obtain ⟨_, _, ⟨T101, L101, k101, n101⟩, -, X101, ⟨Lc101, hQ101, l101, y101, z101⟩, st101⟩ := Jvm.LawKit.callS X0 hx (y := (⟨"java/lang/StringUTF16", "newBytesLength", "(I)I"⟩ : MethodName)) hown (mvT hZ (hw _ own_w82)) (mvT hZ (hw _ own_w83)) (mvT hZ (hw _ own_w22)) (mvT hZ (hw _ own_w84)) (by decide) (backOf (W := 0) (own_rm_nbl4 l Z a0 hw G1 S1 P1 G3 S3 P3 S4 S5 S6 []  h0 n0 (Nat.le_trans Z0 (Nat.le_refl _)) XO ) hZ (hw _ own_w84) (hw _ own_w22) (by decide) (by decide)) (g := (mkF m 1 #[.val (.int (4 : Int32))] [(.int (4 : Int32))])) rfl (by rw [hml]; rfl) (argsL := [(.int (4 : Int32))]) (rest := []) (lenOf own_pd6 rfl) rfl (by show 2 * 0 + _ ≤ _; exact Nat.le_of_eq rfl) (hb hby own_d_jdk_52_method_2_code_1) (fun _ _ => ⟨rfl, e0, (by decide : 0 + 0 ≤ _), (by decide : 0 + 0 ≤ _)⟩)
  dsimp only [Pt.U, Pt.locs, Pt.cells, Pt.slots] at X101 l101 y101 z101 st101 hQ101
  subst l101 y101 z101
  obtain ⟨rfl, M101, e101⟩ := hQ101
  have N101 := Fr.app N0 M101
  refine own_st (S' := T101.setTop (mkF m 4 #[.val (.int (4 : Int32))] [(.int (8 : Int32))])) st101 ?_
  obtain ⟨T102, h102, k102, X102, e102, E102, A102, AE102, st102⟩ := newPE X101 hx hZ (aty := .byte) (hw _ own_w24) e101 (g := (mkF m 4 #[.val (.int (4 : Int32))] [(.int (8 : Int32))])) rfl (hb hby own_d_jdk_52_method_2_code_4) rfl (by decide) (cap := 8) (by decide) (by decide) (by decide) (by decide) (ad := "[B") (by decide)
  obtain ⟨b102, g102⟩ : ∃ z, z = h0.size := ⟨_, rfl⟩
  rw [← g102] at A102 AE102 st102
  have V102 : Arv Z h102 b102 k102 .byte (8 : Int32) [(.int (0 : Int32)), (.int (0 : Int32)), (.int (0 : Int32)), (.int (0 : Int32)), (.int (0 : Int32)), (.int (0 : Int32)), (.int (0 : Int32)), (.int (0 : Int32))] (.int (0 : Int32)) := (Arv.new A102 (by decide)).pad (pad_rep [] (.int (0 : Int32)) 8)
  refine own_st (S' := T102.setTop (mkF m 6 #[.val (.int (4 : Int32))] [(.ref b102)])) st102 ?_
  refine own_ret X102 hx hret hlk rfl (Or.inr (Or.inr (Or.inr (Or.inr ⟨rfl, rfl, rfl⟩)))) (hb hby own_d_jdk_52_method_2_code_6) (by decide) (by decide) ?_
  rw [e102]
  exact ⟨b102, k102, rfl, N101, E102, (Nat.le_of_eq g102.symm), V102⟩
def own_Q_tob4 (Z : State) (c0 c1 c2 c3 : Int32) (h0 : Heap) (n0 : Nat) (v : Option Value) (h : Heap) (L : List Loc) : Prop := ∃ (r : Addr) (k : ClassId), v = some (.ref r) ∧ Fr n0 L ∧ Ext h0 h ∧ h0.size ≤ r ∧ Arv Z h r k .byte (8 : Int32) [.int (StrChars.lo8 c0), .int (StrChars.hi8 c0), .int (StrChars.lo8 c1), .int (StrChars.hi8 c1), .int (StrChars.lo8 c2), .int (StrChars.hi8 c2), .int (StrChars.lo8 c3), .int (StrChars.hi8 c3)] (.int (0 : Int32))
theorem own_ef_tob4 (m : MethodId) (b0 : Addr) : entryFrame m #[(.ref b0), (.int (0 : Int32)), (.int (4 : Int32))] 5 = mkF m 0 #[.val (.ref b0), .val (.int (0 : Int32)), .val (.int (4 : Int32)), .unset, .unset] [] := by first | (simp [entryFrame, mkF, argsToLocals, Value.category, maxLocals]; done) | rfl
set_option maxRecDepth 65536 in
set_option maxHeartbeats 40000000 in
theorem own_rm_tob4 (l : Launch) (Z : State) (a0 : Array Value) (hw : ∀ d ∈ tables_1, d.before a0 Z = true) (G1 : Int32) (S1 : Sta Z Z.heap "java/lang/String" "COMPACT_STRINGS" "Z" (.int G1)) (P1 : ¬ G1 = 0) (G3 : Value) (S3 : Sta Z Z.heap "jdk/internal/util/Preconditions" "SIOOBE_FORMATTER" "Ljava/util/function/BiFunction;" G3) (P3 : G3.isRef = true) (S4 : Sta Z Z.heap "java/lang/StringUTF16" "$assertionsDisabled" "Z" (.int (1 : Int32))) (S5 : Sta Z Z.heap "java/lang/StringUTF16" "HI_BYTE_SHIFT" "I" (.int (0 : Int32))) (S6 : Sta Z Z.heap "java/lang/StringUTF16" "LO_BYTE_SHIFT" "I" (.int (8 : Int32))) (ws : List Jvm.Cond) (b0 : Addr) (kc : ClassId) (c0 c1 c2 c3 : Int32) (h0 : Heap) (n0 : Nat) (Z0 : n0 ≤ h0.size) (XO : Old Z n0 h0) (V1 : Arv Z h0 b0 kc .char (4 : Int32) [.int c0, .int c1, .int c2, .int c3] (.int (0 : Int32))) :
    own_Met l Z h0 (⟨"java/lang/StringUTF16", "toBytes", "([CII)[B"⟩ : MethodName) jdk_52_method_14_code 5 (some (.array .byte)) ws { frames := 2, cells := 1, slots := 8, locals := 24 } #[(.ref b0), (.int (0 : Int32)), (.int (4 : Int32))] (own_Q_tob4 Z c0 c1 c2 c3 h0 n0) := by
  refine own_enter (plainFor_of_name own_pn2) (fun p e s m below meth c s₁ hx hby hlk hml hown hnm hret hZ X0 e0 => ?_)
  have N0 := Fr.nil n0
  refine own_st (S' := s₁.setTop (mkF m 0 #[.val (.ref b0), .val (.int (0 : Int32)), .val (.int (4 : Int32)), .unset, .unset] [])) (fun _ k => castTop (own_ef_tob4 m b0) k) ?_
  refine own_st (S' := s₁.setTop (mkF m 1 #[.val (.ref b0), .val (.int (0 : Int32)), .val (.int (4 : Int32)), .unset, .unset] [(.int (4 : Int32))])) (fun _ k => XS.iloadN X0.here hx rfl (hb hby own_d_jdk_52_method_14_code_0) rfl k) ?_
  obtain ⟨_, _, ⟨T101, L101, k101, n101⟩, -, X101, ⟨Lc101, hQ101, l101, y101, z101⟩, st101⟩ := Jvm.LawKit.callS X0 hx (y := (⟨"java/lang/StringUTF16", "newBytesFor", "(I)[B"⟩ : MethodName)) hown (mvT hZ (hw _ own_w79)) (mvT hZ (hw _ own_w80)) (mvT hZ (hw _ own_w22)) (mvT hZ (hw _ own_w81)) (by decide) (backOf (W := 0) (own_rm_nbf4 l Z a0 hw G1 S1 P1 G3 S3 P3 S4 S5 S6 []  h0 n0 (Nat.le_trans Z0 (Nat.le_refl _)) XO ) hZ (hw _ own_w81) (hw _ own_w22) (by decide) (by decide)) (g := (mkF m 1 #[.val (.ref b0), .val (.int (0 : Int32)), .val (.int (4 : Int32)), .unset, .unset] [(.int (4 : Int32))])) rfl (by rw [hml]; rfl) (argsL := [(.int (4 : Int32))]) (rest := []) (lenOf own_pd7 rfl) rfl (by show 2 * 0 + _ ≤ _; exact Nat.le_of_eq rfl) (hb hby own_d_jdk_52_method_14_code_1) (fun _ _ => ⟨rfl, e0, (by decide : 0 + 1 ≤ _), (by decide : 0 + 8 ≤ _)⟩)
  dsimp only [Pt.U, Pt.locs, Pt.cells, Pt.slots] at X101 l101 y101 z101 st101 hQ101
  subst l101 y101 z101
  obtain ⟨r101, kr101, rfl, M101, E101, g101, V101⟩ := hQ101
  have N101 := Fr.app N0 M101
  obtain ⟨h101, e101⟩ : ∃ z, T101.heap = z := ⟨_, rfl⟩
  rw [e101] at E101 V101
  refine own_st (S' := T101.setTop (mkF m 4 #[.val (.ref b0), .val (.int (0 : Int32)), .val (.int (4 : Int32)), .unset, .unset] [(.ref r101)])) st101 ?_
  refine own_st (S' := T101.setTop (mkF m 10 #[.val (.ref b0), .val (.int (0 : Int32)), .val (.int (4 : Int32)), .val (.ref r101), .val (.int (0 : Int32))] [(.int (0 : Int32))])) (fun _ k => XS.astoreN X101.here hx rfl (hb hby own_d_jdk_52_method_14_code_4) rfl rfl (l' := #[.val (.ref b0), .val (.int (0 : Int32)), .val (.int (4 : Int32)), .val (.ref r101), .unset]) rfl (XS.iconst X101.here hx rfl (hb hby own_d_jdk_52_method_14_code_5) (XS.istore X101.here hx rfl (hb hby own_d_jdk_52_method_14_code_6) rfl (l' := #[.val (.ref b0), .val (.int (0 : Int32)), .val (.int (4 : Int32)), .val (.ref r101), .val (.int (0 : Int32))]) rfl (XS.iload X101.here hx rfl (hb hby own_d_jdk_52_method_14_code_8) rfl k)))) ?_
  refine own_st (S' := T101.setTop (mkF m 17 #[.val (.ref b0), .val (.int (0 : Int32)), .val (.int (4 : Int32)), .val (.ref r101), .val (.int (0 : Int32))] [(.int (0 : Int32)), (.ref r101)])) (fun _ k => XS.iloadN X101.here hx rfl (hb hby own_d_jdk_52_method_14_code_10) rfl (XS.icmpNo X101.here hx rfl (hb hby own_d_jdk_52_method_14_code_11) rfl (by decide) (XS.aloadN X101.here hx rfl (hb hby own_d_jdk_52_method_14_code_14) rfl rfl (XS.iload X101.here hx rfl (hb hby own_d_jdk_52_method_14_code_15) rfl k)))) ?_
  refine own_st (S' := T101.setTop (mkF m 19 #[.val (.ref b0), .val (.int (0 : Int32)), .val (.int (4 : Int32)), .val (.ref r101), .val (.int (0 : Int32))] [(.int (0 : Int32)), (.ref b0), (.int (0 : Int32)), (.ref r101)])) (fun _ k => XS.aloadN X101.here hx rfl (hb hby own_d_jdk_52_method_14_code_17) rfl rfl (XS.iloadN X101.here hx rfl (hb hby own_d_jdk_52_method_14_code_18) rfl k)) ?_
  have V102 : Arv Z h101 b0 kc .char (4 : Int32) [(.int c0), (.int c1), (.int c2), (.int c3)] (.int (0 : Int32)) := (V1.ext E101)
  obtain ⟨c103, A103, q103, S103, M103, H103, U103⟩ := id V102
  have i103 := inb_of (j := (0 : Int32)) S103 ⟨by decide, by decide⟩
  refine own_st (S' := T101.setTop (mkF m 20 #[.val (.ref b0), .val (.int (0 : Int32)), .val (.int (4 : Int32)), .val (.ref r101), .val (.int (0 : Int32))] [(.int c0), (.int (0 : Int32)), (.ref r101)])) (X101.caload hx (j := (0 : Int32)) (v := (.int c0)) (by rw [e101]; exact A103.1) (State.isArrayOf_alike hZ.alike A103.2.1) A103.2.2 i103 (H103.at i103 rfl) (g := (mkF m 19 #[.val (.ref b0), .val (.int (0 : Int32)), .val (.int (4 : Int32)), .val (.ref r101), .val (.int (0 : Int32))] [(.int (0 : Int32)), (.ref b0), (.int (0 : Int32)), (.ref r101)])) rfl rfl (hb hby own_d_jdk_52_method_14_code_19)) ?_
  have XO104 : Old Z n0 h101 := (XO.ext E101)
  obtain ⟨_, _, ⟨T105, L105, k105, n105⟩, -, X105, ⟨Lc105, hQ105, l105, y105, z105⟩, st105⟩ := Jvm.LawKit.callS X101 hx (y := (⟨"java/lang/StringUTF16", "putChar", "([BII)V"⟩ : MethodName)) hown (mvT hZ (hw _ own_w86)) (mvT hZ (hw _ own_w87)) (mvT hZ (hw _ own_w22)) (mvT hZ (hw _ own_w88)) (by decide) (backOf (W := 0) (own_rm_putc l Z a0 hw G1 S1 P1 G3 S3 P3 S4 S5 S6 [] r101 (0 : Int32) c0 (0 : Int32) (8 : Int32) 0 kr101 [(.int (0 : Int32)), (.int (0 : Int32)), (.int (0 : Int32)), (.int (0 : Int32)), (.int (0 : Int32)), (.int (0 : Int32)), (.int (0 : Int32)), (.int (0 : Int32))] h101 n0 (Nat.le_trans Z0 E101.1) XO104 (Nat.le_trans Z0 g101) V101 (by decide) ⟨by decide, by decide⟩ ⟨by decide, by decide⟩ (by decide) (by decide) (Nat.le_of_ble_eq_true rfl)) hZ (hw _ own_w88) (hw _ own_w22) (by decide) (by decide)) (g := (mkF m 20 #[.val (.ref b0), .val (.int (0 : Int32)), .val (.int (4 : Int32)), .val (.ref r101), .val (.int (0 : Int32))] [(.int c0), (.int (0 : Int32)), (.ref r101)])) rfl (by rw [hml]; rfl) (argsL := [(.ref r101), (.int (0 : Int32)), (.int c0)]) (rest := []) (lenOf own_pd8 rfl) rfl (by show 2 * 0 + _ ≤ _; exact Nat.le_of_eq rfl) (hb hby own_d_jdk_52_method_14_code_20) (fun _ _ => ⟨rfl, e101, (by decide : 1 + 0 ≤ _), (by decide : 8 + 0 ≤ _)⟩)
  dsimp only [Pt.U, Pt.locs, Pt.cells, Pt.slots] at X105 l105 y105 z105 st105 hQ105
  subst l105 y105 z105
  obtain ⟨rfl, M105, K105, U105⟩ := hQ105
  have N105 := Fr.app N101 M105
  obtain ⟨h105, e105⟩ : ∃ z, T105.heap = z := ⟨_, rfl⟩
  rw [e105] at K105 U105
  have V105 : Arv Z h105 r101 kr101 .byte (8 : Int32) [(.int (StrChars.lo8 c0)), (.int (StrChars.hi8 c0)), (.int (0 : Int32)), (.int (0 : Int32)), (.int (0 : Int32)), (.int (0 : Int32)), (.int (0 : Int32)), (.int (0 : Int32))] (.int (0 : Int32)) := U105
  refine own_st (S' := T105.setTop (mkF m 23 #[.val (.ref b0), .val (.int (0 : Int32)), .val (.int (4 : Int32)), .val (.ref r101), .val (.int (0 : Int32))] [])) st105 ?_
  refine own_st (S' := T105.setTop (mkF m 10 #[.val (.ref b0), .val (.int (1 : Int32)), .val (.int (4 : Int32)), .val (.ref r101), .val (.int (1 : Int32))] [(.int (1 : Int32))])) (fun _ k => XS.iinc X105.here hx rfl (hb hby own_d_jdk_52_method_14_code_23) rfl (l' := #[.val (.ref b0), .val (.int (1 : Int32)), .val (.int (4 : Int32)), .val (.ref r101), .val (.int (0 : Int32))]) rfl (XS.iinc X105.here hx rfl (hb hby own_d_jdk_52_method_14_code_26) rfl (l' := #[.val (.ref b0), .val (.int (1 : Int32)), .val (.int (4 : Int32)), .val (.ref r101), .val (.int (1 : Int32))]) rfl (XS.goto X105.here hx rfl (pc0 := 29) (pc' := 8) rfl (hb hby own_d_jdk_52_method_14_code_29) (by decide) (by decide) (XS.iload X105.here hx rfl (hb hby own_d_jdk_52_method_14_code_8) rfl k)))) ?_
  refine own_st (S' := T105.setTop (mkF m 17 #[.val (.ref b0), .val (.int (1 : Int32)), .val (.int (4 : Int32)), .val (.ref r101), .val (.int (1 : Int32))] [(.int (1 : Int32)), (.ref r101)])) (fun _ k => XS.iloadN X105.here hx rfl (hb hby own_d_jdk_52_method_14_code_10) rfl (XS.icmpNo X105.here hx rfl (hb hby own_d_jdk_52_method_14_code_11) rfl (by decide) (XS.aloadN X105.here hx rfl (hb hby own_d_jdk_52_method_14_code_14) rfl rfl (XS.iload X105.here hx rfl (hb hby own_d_jdk_52_method_14_code_15) rfl k)))) ?_
  refine own_st (S' := T105.setTop (mkF m 19 #[.val (.ref b0), .val (.int (1 : Int32)), .val (.int (4 : Int32)), .val (.ref r101), .val (.int (1 : Int32))] [(.int (1 : Int32)), (.ref b0), (.int (1 : Int32)), (.ref r101)])) (fun _ k => XS.aloadN X105.here hx rfl (hb hby own_d_jdk_52_method_14_code_17) rfl rfl (XS.iloadN X105.here hx rfl (hb hby own_d_jdk_52_method_14_code_18) rfl k)) ?_
  have V106 : Arv Z h105 b0 kc .char (4 : Int32) [(.int c0), (.int c1), (.int c2), (.int c3)] (.int (0 : Int32)) := (V102.keep K105 (ninS (Nat.ne_of_lt (Nat.lt_of_lt_of_le V1.lt g101)) nin0))
  obtain ⟨c107, A107, q107, S107, M107, H107, U107⟩ := id V106
  have i107 := inb_of (j := (1 : Int32)) S107 ⟨by decide, by decide⟩
  refine own_st (S' := T105.setTop (mkF m 20 #[.val (.ref b0), .val (.int (1 : Int32)), .val (.int (4 : Int32)), .val (.ref r101), .val (.int (1 : Int32))] [(.int c1), (.int (1 : Int32)), (.ref r101)])) (X105.caload hx (j := (1 : Int32)) (v := (.int c1)) (by rw [e105]; exact A107.1) (State.isArrayOf_alike hZ.alike A107.2.1) A107.2.2 i107 (H107.at i107 rfl) (g := (mkF m 19 #[.val (.ref b0), .val (.int (1 : Int32)), .val (.int (4 : Int32)), .val (.ref r101), .val (.int (1 : Int32))] [(.int (1 : Int32)), (.ref b0), (.int (1 : Int32)), (.ref r101)])) rfl rfl (hb hby own_d_jdk_52_method_14_code_19)) ?_
  have XO108 : Old Z n0 h105 := (XO104.keep K105 (allS (Nat.le_trans Z0 g101) all0))
  obtain ⟨_, _, ⟨T109, L109, k109, n109⟩, -, X109, ⟨Lc109, hQ109, l109, y109, z109⟩, st109⟩ := Jvm.LawKit.callS X105 hx (y := (⟨"java/lang/StringUTF16", "putChar", "([BII)V"⟩ : MethodName)) hown (mvT hZ (hw _ own_w86)) (mvT hZ (hw _ own_w87)) (mvT hZ (hw _ own_w22)) (mvT hZ (hw _ own_w88)) (by decide) (backOf (W := 0) (own_rm_putc l Z a0 hw G1 S1 P1 G3 S3 P3 S4 S5 S6 [] r101 (1 : Int32) c1 (2 : Int32) (8 : Int32) 2 kr101 [(.int (StrChars.lo8 c0)), (.int (StrChars.hi8 c0)), (.int (0 : Int32)), (.int (0 : Int32)), (.int (0 : Int32)), (.int (0 : Int32)), (.int (0 : Int32)), (.int (0 : Int32))] h105 n0 (Nat.le_trans Z0 (Nat.le_trans E101.1 K105.1)) XO108 (Nat.le_trans Z0 g101) V105 (by decide) ⟨by decide, by decide⟩ ⟨by decide, by decide⟩ (by decide) (by decide) (Nat.le_of_ble_eq_true rfl)) hZ (hw _ own_w88) (hw _ own_w22) (by decide) (by decide)) (g := (mkF m 20 #[.val (.ref b0), .val (.int (1 : Int32)), .val (.int (4 : Int32)), .val (.ref r101), .val (.int (1 : Int32))] [(.int c1), (.int (1 : Int32)), (.ref r101)])) rfl (by rw [hml]; rfl) (argsL := [(.ref r101), (.int (1 : Int32)), (.int c1)]) (rest := []) (lenOf own_pd8 rfl) rfl (by show 2 * 0 + _ ≤ _; exact Nat.le_of_eq rfl) (hb hby own_d_jdk_52_method_14_code_20) (fun _ _ => ⟨rfl, e105, (by decide : 1 + 0 ≤ _), (by decide : 8 + 0 ≤ _)⟩)
  dsimp only [Pt.U, Pt.locs, Pt.cells, Pt.slots] at X109 l109 y109 z109 st109 hQ109
  subst l109 y109 z109
  obtain ⟨rfl, M109, K109, U109⟩ := hQ109
  have N109 := Fr.app N105 M109
  obtain ⟨h109, e109⟩ : ∃ z, T109.heap = z := ⟨_, rfl⟩
  rw [e109] at K109 U109
  have V109 : Arv Z h109 r101 kr101 .byte (8 : Int32) [(.int (StrChars.lo8 c0)), (.int (StrChars.hi8 c0)), (.int (StrChars.lo8 c1)), (.int (StrChars.hi8 c1)), (.int (0 : Int32)), (.int (0 : Int32)), (.int (0 : Int32)), (.int (0 : Int32))] (.int (0 : Int32)) := U109
  refine own_st (S' := T109.setTop (mkF m 23 #[.val (.ref b0), .val (.int (1 : Int32)), .val (.int (4 : Int32)), .val (.ref r101), .val (.int (1 : Int32))] [])) st109 ?_
  refine own_st (S' := T109.setTop (mkF m 10 #[.val (.ref b0), .val (.int (2 : Int32)), .val (.int (4 : Int32)), .val (.ref r101), .val (.int (2 : Int32))] [(.int (2 : Int32))])) (fun _ k => XS.iinc X109.here hx rfl (hb hby own_d_jdk_52_method_14_code_23) rfl (l' := #[.val (.ref b0), .val (.int (2 : Int32)), .val (.int (4 : Int32)), .val (.ref r101), .val (.int (1 : Int32))]) rfl (XS.iinc X109.here hx rfl (hb hby own_d_jdk_52_method_14_code_26) rfl (l' := #[.val (.ref b0), .val (.int (2 : Int32)), .val (.int (4 : Int32)), .val (.ref r101), .val (.int (2 : Int32))]) rfl (XS.goto X109.here hx rfl (pc0 := 29) (pc' := 8) rfl (hb hby own_d_jdk_52_method_14_code_29) (by decide) (by decide) (XS.iload X109.here hx rfl (hb hby own_d_jdk_52_method_14_code_8) rfl k)))) ?_
  refine own_st (S' := T109.setTop (mkF m 17 #[.val (.ref b0), .val (.int (2 : Int32)), .val (.int (4 : Int32)), .val (.ref r101), .val (.int (2 : Int32))] [(.int (2 : Int32)), (.ref r101)])) (fun _ k => XS.iloadN X109.here hx rfl (hb hby own_d_jdk_52_method_14_code_10) rfl (XS.icmpNo X109.here hx rfl (hb hby own_d_jdk_52_method_14_code_11) rfl (by decide) (XS.aloadN X109.here hx rfl (hb hby own_d_jdk_52_method_14_code_14) rfl rfl (XS.iload X109.here hx rfl (hb hby own_d_jdk_52_method_14_code_15) rfl k)))) ?_
  refine own_st (S' := T109.setTop (mkF m 19 #[.val (.ref b0), .val (.int (2 : Int32)), .val (.int (4 : Int32)), .val (.ref r101), .val (.int (2 : Int32))] [(.int (2 : Int32)), (.ref b0), (.int (2 : Int32)), (.ref r101)])) (fun _ k => XS.aloadN X109.here hx rfl (hb hby own_d_jdk_52_method_14_code_17) rfl rfl (XS.iloadN X109.here hx rfl (hb hby own_d_jdk_52_method_14_code_18) rfl k)) ?_
  have V110 : Arv Z h109 b0 kc .char (4 : Int32) [(.int c0), (.int c1), (.int c2), (.int c3)] (.int (0 : Int32)) := (V106.keep K109 (ninS (Nat.ne_of_lt (Nat.lt_of_lt_of_le V1.lt g101)) nin0))
  obtain ⟨c111, A111, q111, S111, M111, H111, U111⟩ := id V110
  have i111 := inb_of (j := (2 : Int32)) S111 ⟨by decide, by decide⟩
  refine own_st (S' := T109.setTop (mkF m 20 #[.val (.ref b0), .val (.int (2 : Int32)), .val (.int (4 : Int32)), .val (.ref r101), .val (.int (2 : Int32))] [(.int c2), (.int (2 : Int32)), (.ref r101)])) (X109.caload hx (j := (2 : Int32)) (v := (.int c2)) (by rw [e109]; exact A111.1) (State.isArrayOf_alike hZ.alike A111.2.1) A111.2.2 i111 (H111.at i111 rfl) (g := (mkF m 19 #[.val (.ref b0), .val (.int (2 : Int32)), .val (.int (4 : Int32)), .val (.ref r101), .val (.int (2 : Int32))] [(.int (2 : Int32)), (.ref b0), (.int (2 : Int32)), (.ref r101)])) rfl rfl (hb hby own_d_jdk_52_method_14_code_19)) ?_
  have XO112 : Old Z n0 h109 := (XO108.keep K109 (allS (Nat.le_trans Z0 g101) all0))
  obtain ⟨_, _, ⟨T113, L113, k113, n113⟩, -, X113, ⟨Lc113, hQ113, l113, y113, z113⟩, st113⟩ := Jvm.LawKit.callS X109 hx (y := (⟨"java/lang/StringUTF16", "putChar", "([BII)V"⟩ : MethodName)) hown (mvT hZ (hw _ own_w86)) (mvT hZ (hw _ own_w87)) (mvT hZ (hw _ own_w22)) (mvT hZ (hw _ own_w88)) (by decide) (backOf (W := 0) (own_rm_putc l Z a0 hw G1 S1 P1 G3 S3 P3 S4 S5 S6 [] r101 (2 : Int32) c2 (4 : Int32) (8 : Int32) 4 kr101 [(.int (StrChars.lo8 c0)), (.int (StrChars.hi8 c0)), (.int (StrChars.lo8 c1)), (.int (StrChars.hi8 c1)), (.int (0 : Int32)), (.int (0 : Int32)), (.int (0 : Int32)), (.int (0 : Int32))] h109 n0 (Nat.le_trans Z0 (Nat.le_trans (Nat.le_trans E101.1 K105.1) K109.1)) XO112 (Nat.le_trans Z0 g101) V109 (by decide) ⟨by decide, by decide⟩ ⟨by decide, by decide⟩ (by decide) (by decide) (Nat.le_of_ble_eq_true rfl)) hZ (hw _ own_w88) (hw _ own_w22) (by decide) (by decide)) (g := (mkF m 20 #[.val (.ref b0), .val (.int (2 : Int32)), .val (.int (4 : Int32)), .val (.ref r101), .val (.int (2 : Int32))] [(.int c2), (.int (2 : Int32)), (.ref r101)])) rfl (by rw [hml]; rfl) (argsL := [(.ref r101), (.int (2 : Int32)), (.int c2)]) (rest := []) (lenOf own_pd8 rfl) rfl (by show 2 * 0 + _ ≤ _; exact Nat.le_of_eq rfl) (hb hby own_d_jdk_52_method_14_code_20) (fun _ _ => ⟨rfl, e109, (by decide : 1 + 0 ≤ _), (by decide : 8 + 0 ≤ _)⟩)
  dsimp only [Pt.U, Pt.locs, Pt.cells, Pt.slots] at X113 l113 y113 z113 st113 hQ113
  subst l113 y113 z113
  obtain ⟨rfl, M113, K113, U113⟩ := hQ113
  have N113 := Fr.app N109 M113
  obtain ⟨h113, e113⟩ : ∃ z, T113.heap = z := ⟨_, rfl⟩
  rw [e113] at K113 U113
  have V113 : Arv Z h113 r101 kr101 .byte (8 : Int32) [(.int (StrChars.lo8 c0)), (.int (StrChars.hi8 c0)), (.int (StrChars.lo8 c1)), (.int (StrChars.hi8 c1)), (.int (StrChars.lo8 c2)), (.int (StrChars.hi8 c2)), (.int (0 : Int32)), (.int (0 : Int32))] (.int (0 : Int32)) := U113
  refine own_st (S' := T113.setTop (mkF m 23 #[.val (.ref b0), .val (.int (2 : Int32)), .val (.int (4 : Int32)), .val (.ref r101), .val (.int (2 : Int32))] [])) st113 ?_
  refine own_st (S' := T113.setTop (mkF m 10 #[.val (.ref b0), .val (.int (3 : Int32)), .val (.int (4 : Int32)), .val (.ref r101), .val (.int (3 : Int32))] [(.int (3 : Int32))])) (fun _ k => XS.iinc X113.here hx rfl (hb hby own_d_jdk_52_method_14_code_23) rfl (l' := #[.val (.ref b0), .val (.int (3 : Int32)), .val (.int (4 : Int32)), .val (.ref r101), .val (.int (2 : Int32))]) rfl (XS.iinc X113.here hx rfl (hb hby own_d_jdk_52_method_14_code_26) rfl (l' := #[.val (.ref b0), .val (.int (3 : Int32)), .val (.int (4 : Int32)), .val (.ref r101), .val (.int (3 : Int32))]) rfl (XS.goto X113.here hx rfl (pc0 := 29) (pc' := 8) rfl (hb hby own_d_jdk_52_method_14_code_29) (by decide) (by decide) (XS.iload X113.here hx rfl (hb hby own_d_jdk_52_method_14_code_8) rfl k)))) ?_
  refine own_st (S' := T113.setTop (mkF m 17 #[.val (.ref b0), .val (.int (3 : Int32)), .val (.int (4 : Int32)), .val (.ref r101), .val (.int (3 : Int32))] [(.int (3 : Int32)), (.ref r101)])) (fun _ k => XS.iloadN X113.here hx rfl (hb hby own_d_jdk_52_method_14_code_10) rfl (XS.icmpNo X113.here hx rfl (hb hby own_d_jdk_52_method_14_code_11) rfl (by decide) (XS.aloadN X113.here hx rfl (hb hby own_d_jdk_52_method_14_code_14) rfl rfl (XS.iload X113.here hx rfl (hb hby own_d_jdk_52_method_14_code_15) rfl k)))) ?_
  refine own_st (S' := T113.setTop (mkF m 19 #[.val (.ref b0), .val (.int (3 : Int32)), .val (.int (4 : Int32)), .val (.ref r101), .val (.int (3 : Int32))] [(.int (3 : Int32)), (.ref b0), (.int (3 : Int32)), (.ref r101)])) (fun _ k => XS.aloadN X113.here hx rfl (hb hby own_d_jdk_52_method_14_code_17) rfl rfl (XS.iloadN X113.here hx rfl (hb hby own_d_jdk_52_method_14_code_18) rfl k)) ?_
  have V114 : Arv Z h113 b0 kc .char (4 : Int32) [(.int c0), (.int c1), (.int c2), (.int c3)] (.int (0 : Int32)) := (V110.keep K113 (ninS (Nat.ne_of_lt (Nat.lt_of_lt_of_le V1.lt g101)) nin0))
  obtain ⟨c115, A115, q115, S115, M115, H115, U115⟩ := id V114
  have i115 := inb_of (j := (3 : Int32)) S115 ⟨by decide, by decide⟩
  refine own_st (S' := T113.setTop (mkF m 20 #[.val (.ref b0), .val (.int (3 : Int32)), .val (.int (4 : Int32)), .val (.ref r101), .val (.int (3 : Int32))] [(.int c3), (.int (3 : Int32)), (.ref r101)])) (X113.caload hx (j := (3 : Int32)) (v := (.int c3)) (by rw [e113]; exact A115.1) (State.isArrayOf_alike hZ.alike A115.2.1) A115.2.2 i115 (H115.at i115 rfl) (g := (mkF m 19 #[.val (.ref b0), .val (.int (3 : Int32)), .val (.int (4 : Int32)), .val (.ref r101), .val (.int (3 : Int32))] [(.int (3 : Int32)), (.ref b0), (.int (3 : Int32)), (.ref r101)])) rfl rfl (hb hby own_d_jdk_52_method_14_code_19)) ?_
  have XO116 : Old Z n0 h113 := (XO112.keep K113 (allS (Nat.le_trans Z0 g101) all0))
  obtain ⟨_, _, ⟨T117, L117, k117, n117⟩, -, X117, ⟨Lc117, hQ117, l117, y117, z117⟩, st117⟩ := Jvm.LawKit.callS X113 hx (y := (⟨"java/lang/StringUTF16", "putChar", "([BII)V"⟩ : MethodName)) hown (mvT hZ (hw _ own_w86)) (mvT hZ (hw _ own_w87)) (mvT hZ (hw _ own_w22)) (mvT hZ (hw _ own_w88)) (by decide) (backOf (W := 0) (own_rm_putc l Z a0 hw G1 S1 P1 G3 S3 P3 S4 S5 S6 [] r101 (3 : Int32) c3 (6 : Int32) (8 : Int32) 6 kr101 [(.int (StrChars.lo8 c0)), (.int (StrChars.hi8 c0)), (.int (StrChars.lo8 c1)), (.int (StrChars.hi8 c1)), (.int (StrChars.lo8 c2)), (.int (StrChars.hi8 c2)), (.int (0 : Int32)), (.int (0 : Int32))] h113 n0 (Nat.le_trans Z0 (Nat.le_trans (Nat.le_trans (Nat.le_trans E101.1 K105.1) K109.1) K113.1)) XO116 (Nat.le_trans Z0 g101) V113 (by decide) ⟨by decide, by decide⟩ ⟨by decide, by decide⟩ (by decide) (by decide) (Nat.le_of_ble_eq_true rfl)) hZ (hw _ own_w88) (hw _ own_w22) (by decide) (by decide)) (g := (mkF m 20 #[.val (.ref b0), .val (.int (3 : Int32)), .val (.int (4 : Int32)), .val (.ref r101), .val (.int (3 : Int32))] [(.int c3), (.int (3 : Int32)), (.ref r101)])) rfl (by rw [hml]; rfl) (argsL := [(.ref r101), (.int (3 : Int32)), (.int c3)]) (rest := []) (lenOf own_pd8 rfl) rfl (by show 2 * 0 + _ ≤ _; exact Nat.le_of_eq rfl) (hb hby own_d_jdk_52_method_14_code_20) (fun _ _ => ⟨rfl, e113, (by decide : 1 + 0 ≤ _), (by decide : 8 + 0 ≤ _)⟩)
  dsimp only [Pt.U, Pt.locs, Pt.cells, Pt.slots] at X117 l117 y117 z117 st117 hQ117
  subst l117 y117 z117
  obtain ⟨rfl, M117, K117, U117⟩ := hQ117
  have N117 := Fr.app N113 M117
  obtain ⟨h117, e117⟩ : ∃ z, T117.heap = z := ⟨_, rfl⟩
  rw [e117] at K117 U117
  have V117 : Arv Z h117 r101 kr101 .byte (8 : Int32) [(.int (StrChars.lo8 c0)), (.int (StrChars.hi8 c0)), (.int (StrChars.lo8 c1)), (.int (StrChars.hi8 c1)), (.int (StrChars.lo8 c2)), (.int (StrChars.hi8 c2)), (.int (StrChars.lo8 c3)), (.int (StrChars.hi8 c3))] (.int (0 : Int32)) := U117
  refine own_st (S' := T117.setTop (mkF m 23 #[.val (.ref b0), .val (.int (3 : Int32)), .val (.int (4 : Int32)), .val (.ref r101), .val (.int (3 : Int32))] [])) st117 ?_
  refine own_st (S' := T117.setTop (mkF m 10 #[.val (.ref b0), .val (.int (4 : Int32)), .val (.int (4 : Int32)), .val (.ref r101), .val (.int (4 : Int32))] [(.int (4 : Int32))])) (fun _ k => XS.iinc X117.here hx rfl (hb hby own_d_jdk_52_method_14_code_23) rfl (l' := #[.val (.ref b0), .val (.int (4 : Int32)), .val (.int (4 : Int32)), .val (.ref r101), .val (.int (3 : Int32))]) rfl (XS.iinc X117.here hx rfl (hb hby own_d_jdk_52_method_14_code_26) rfl (l' := #[.val (.ref b0), .val (.int (4 : Int32)), .val (.int (4 : Int32)), .val (.ref r101), .val (.int (4 : Int32))]) rfl (XS.goto X117.here hx rfl (pc0 := 29) (pc' := 8) rfl (hb hby own_d_jdk_52_method_14_code_29) (by decide) (by decide) (XS.iload X117.here hx rfl (hb hby own_d_jdk_52_method_14_code_8) rfl k)))) ?_
  refine own_st (S' := T117.setTop (mkF m 33 #[.val (.ref b0), .val (.int (4 : Int32)), .val (.int (4 : Int32)), .val (.ref r101), .val (.int (4 : Int32))] [(.ref r101)])) (fun _ k => XS.iloadN X117.here hx rfl (hb hby own_d_jdk_52_method_14_code_10) rfl (XS.icmpYes X117.here hx rfl (pc0 := 11) (pc' := 32) rfl (hb hby own_d_jdk_52_method_14_code_11) rfl (by decide) (by decide) (by decide) (XS.aloadN X117.here hx rfl (hb hby own_d_jdk_52_method_14_code_32) rfl rfl k))) ?_
  have XE118 : Ext h0 h117 := (own_xk (own_xk (own_xk (own_xk E101 K105 (allS g101 all0)) K109 (allS g101 all0)) K113 (allS g101 all0)) K117 (allS g101 all0))
  refine own_ret X117 hx hret hlk rfl (Or.inr (Or.inr (Or.inr (Or.inr ⟨rfl, rfl, rfl⟩)))) (hb hby own_d_jdk_52_method_14_code_33) (by decide) (by decide) ?_
  rw [e117]
  exact ⟨r101, kr101, rfl, N117, XE118, g101, V117⟩
def own_Q_cm54 (Z : State) (d0 : Addr) (k0 : ClassId) (c0 c1 c2 c3 : Int32) (h0 : Heap) (n0 : Nat) (v : Option Value) (h : Heap) (L : List Loc) : Prop := Fr n0 L ∧ Keep h0 h [d0] ∧ ((v = some (.int 4) ∧ (¬ ((255 : Int32) < c0) ∧ ¬ ((255 : Int32) < c1) ∧ ¬ ((255 : Int32) < c2) ∧ ¬ ((255 : Int32) < c3)) ∧ Arv Z h d0 k0 .byte (4 : Int32) [.int (StrChars.lo8 c0), .int (StrChars.lo8 c1), .int (StrChars.lo8 c2), .int (StrChars.lo8 c3)] (.int (0 : Int32))) ∨ ∃ j : Nat, j < 4 ∧ v = some (.int (Int32.ofNat j)) ∧ (255 : Int32) < [c0, c1, c2, c3].getD j 0)
theorem own_ef_cm54 (m : MethodId) (b0 : Addr) (d0 : Addr) : entryFrame m #[(.ref b0), (.int (0 : Int32)), (.ref d0), (.int (0 : Int32)), (.int (4 : Int32))] 7 = mkF m 0 #[.val (.ref b0), .val (.int (0 : Int32)), .val (.ref d0), .val (.int (0 : Int32)), .val (.int (4 : Int32)), .unset, .unset] [] := by first | (simp [entryFrame, mkF, argsToLocals, Value.category, maxLocals]; done) | rfl
set_option maxRecDepth 65536 in
set_option maxHeartbeats 40000000 in
theorem own_rm_cm54 (l : Launch) (Z : State) (a0 : Array Value) (hw : ∀ d ∈ tables_1, d.before a0 Z = true) (G1 : Int32) (S1 : Sta Z Z.heap "java/lang/String" "COMPACT_STRINGS" "Z" (.int G1)) (P1 : ¬ G1 = 0) (G3 : Value) (S3 : Sta Z Z.heap "jdk/internal/util/Preconditions" "SIOOBE_FORMATTER" "Ljava/util/function/BiFunction;" G3) (P3 : G3.isRef = true) (S4 : Sta Z Z.heap "java/lang/StringUTF16" "$assertionsDisabled" "Z" (.int (1 : Int32))) (S5 : Sta Z Z.heap "java/lang/StringUTF16" "HI_BYTE_SHIFT" "I" (.int (0 : Int32))) (S6 : Sta Z Z.heap "java/lang/StringUTF16" "LO_BYTE_SHIFT" "I" (.int (8 : Int32))) (ws : List Jvm.Cond) (b0 d0 : Addr) (kc k0 : ClassId) (c0 c1 c2 c3 : Int32) (h0 : Heap) (n0 : Nat) (Z0 : n0 ≤ h0.size) (XO : Old Z n0 h0) (g0 : n0 ≤ d0) (hbd : b0 ≠ d0) (V1 : Arv Z h0 b0 kc .char (4 : Int32) [.int c0, .int c1, .int c2, .int c3] (.int (0 : Int32))) (V2 : Arv Z h0 d0 k0 .byte (4 : Int32) [(.int (0 : Int32)), (.int (0 : Int32)), (.int (0 : Int32)), (.int (0 : Int32))] (.int (0 : Int32))) :
    own_Met l Z h0 (⟨"java/lang/StringUTF16", "compress", "([CI[BII)I"⟩ : MethodName) jdk_52_method_21_code 7 (some .int) ws { frames := 0, cells := 0, slots := 0, locals := 0 } #[(.ref b0), (.int (0 : Int32)), (.ref d0), (.int (0 : Int32)), (.int (4 : Int32))] (own_Q_cm54 Z d0 k0 c0 c1 c2 c3 h0 n0) := by
  refine own_enter (plainFor_of_name own_pn2) (fun p e s m below meth c s₁ hx hby hlk hml hown hnm hret hZ X0 e0 => ?_)
  have N0 := Fr.nil n0
  refine own_st (S' := s₁.setTop (mkF m 0 #[.val (.ref b0), .val (.int (0 : Int32)), .val (.ref d0), .val (.int (0 : Int32)), .val (.int (4 : Int32)), .unset, .unset] [])) (fun _ k => castTop (own_ef_cm54 m b0 d0) k) ?_
  refine own_st (S' := s₁.setTop (mkF m 7 #[.val (.ref b0), .val (.int (0 : Int32)), .val (.ref d0), .val (.int (0 : Int32)), .val (.int (4 : Int32)), .val (.int (0 : Int32)), .unset] [(.int (4 : Int32)), (.int (0 : Int32))])) (fun _ k => XS.iconst X0.here hx rfl (hb hby own_d_jdk_52_method_21_code_0) (XS.istore X0.here hx rfl (hb hby own_d_jdk_52_method_21_code_1) rfl (l' := #[.val (.ref b0), .val (.int (0 : Int32)), .val (.ref d0), .val (.int (0 : Int32)), .val (.int (4 : Int32)), .val (.int (0 : Int32)), .unset]) rfl (XS.iload X0.here hx rfl (hb hby own_d_jdk_52_method_21_code_3) rfl (XS.iload X0.here hx rfl (hb hby own_d_jdk_52_method_21_code_5) rfl k)))) ?_
  refine own_st (S' := s₁.setTop (mkF m 12 #[.val (.ref b0), .val (.int (0 : Int32)), .val (.ref d0), .val (.int (0 : Int32)), .val (.int (4 : Int32)), .val (.int (0 : Int32)), .unset] [(.int (0 : Int32)), (.ref b0)])) (fun _ k => XS.icmpNo X0.here hx rfl (hb hby own_d_jdk_52_method_21_code_7) rfl (by decide) (XS.aloadN X0.here hx rfl (hb hby own_d_jdk_52_method_21_code_10) rfl rfl (XS.iloadN X0.here hx rfl (hb hby own_d_jdk_52_method_21_code_11) rfl k))) ?_
  obtain ⟨c101, A101, q101, S101, M101, H101, U101⟩ := id V1
  have i101 := inb_of (j := (0 : Int32)) S101 ⟨by decide, by decide⟩
  refine own_st (S' := s₁.setTop (mkF m 13 #[.val (.ref b0), .val (.int (0 : Int32)), .val (.ref d0), .val (.int (0 : Int32)), .val (.int (4 : Int32)), .val (.int (0 : Int32)), .unset] [(.int c0)])) (X0.caload hx (j := (0 : Int32)) (v := (.int c0)) (by rw [e0]; exact A101.1) (State.isArrayOf_alike hZ.alike A101.2.1) A101.2.2 i101 (H101.at i101 rfl) (g := (mkF m 12 #[.val (.ref b0), .val (.int (0 : Int32)), .val (.ref d0), .val (.int (0 : Int32)), .val (.int (4 : Int32)), .val (.int (0 : Int32)), .unset] [(.int (0 : Int32)), (.ref b0)])) rfl rfl (hb hby own_d_jdk_52_method_21_code_12)) ?_
  refine own_st (S' := s₁.setTop (mkF m 20 #[.val (.ref b0), .val (.int (0 : Int32)), .val (.ref d0), .val (.int (0 : Int32)), .val (.int (4 : Int32)), .val (.int (0 : Int32)), .val (.int c0)] [(.int (255 : Int32)), (.int c0)])) (fun _ k => XS.istore X0.here hx rfl (hb hby own_d_jdk_52_method_21_code_13) rfl (l' := #[.val (.ref b0), .val (.int (0 : Int32)), .val (.ref d0), .val (.int (0 : Int32)), .val (.int (4 : Int32)), .val (.int (0 : Int32)), .val (.int c0)]) rfl (XS.iload X0.here hx rfl (hb hby own_d_jdk_52_method_21_code_15) rfl (XS.sipush X0.here hx rfl (hb hby own_d_jdk_52_method_21_code_17) k))) ?_
  by_cases hc102 : (255 : Int32) < c0
  · refine own_st (S' := s₁.setTop (mkF m 25 #[.val (.ref b0), .val (.int (0 : Int32)), .val (.ref d0), .val (.int (0 : Int32)), .val (.int (4 : Int32)), .val (.int (0 : Int32)), .val (.int c0)] [(.int (0 : Int32))])) (fun _ k => XS.icmpNo X0.here hx rfl (hb hby own_d_jdk_52_method_21_code_20) rfl (tlt hc102).2.2.2 (XS.iload X0.here hx rfl (hb hby own_d_jdk_52_method_21_code_23) rfl k)) ?_
    refine own_ret X0 hx hret hlk rfl (Or.inl ⟨rfl, (by simp), _, rfl⟩) (hb hby own_d_jdk_52_method_21_code_25) (by decide) (by decide) ?_
    rw [e0]
    exact ⟨N0, (Keep.refl _ _), Or.inr ⟨0, by decide, rfl, hc102⟩⟩
  · refine own_st (S' := s₁.setTop (mkF m 30 #[.val (.ref b0), .val (.int (0 : Int32)), .val (.ref d0), .val (.int (0 : Int32)), .val (.int (4 : Int32)), .val (.int (0 : Int32)), .val (.int c0)] [(.int c0), (.int (0 : Int32)), (.ref d0)])) (fun _ k => XS.icmpYes X0.here hx rfl (pc0 := 20) (pc' := 26) rfl (hb hby own_d_jdk_52_method_21_code_20) rfl (flt hc102).2.2.2 (by decide) (by decide) (XS.aloadN X0.here hx rfl (hb hby own_d_jdk_52_method_21_code_26) rfl rfl (XS.iloadN X0.here hx rfl (hb hby own_d_jdk_52_method_21_code_27) rfl (XS.iload X0.here hx rfl (hb hby own_d_jdk_52_method_21_code_28) rfl k)))) ?_
    refine own_st (S' := s₁.setTop (mkF m 31 #[.val (.ref b0), .val (.int (0 : Int32)), .val (.ref d0), .val (.int (0 : Int32)), .val (.int (4 : Int32)), .val (.int (0 : Int32)), .val (.int c0)] [(.int (c0.toInt8.toInt32)), (.int (0 : Int32)), (.ref d0)])) (fun _ k => XS.i2b X0.here hx rfl (hb hby own_d_jdk_52_method_21_code_30) rfl k) ?_
    obtain ⟨c103, A103, q103, S103, M103, H103, U103⟩ := id V2
    obtain ⟨T103, h103, X103, e103, W103, st103⟩ := stB X0 hx hZ e0 A103 (j := (0 : Int32)) (inb_of S103 ⟨by decide, by decide⟩) (g := (mkF m 31 #[.val (.ref b0), .val (.int (0 : Int32)), .val (.ref d0), .val (.int (0 : Int32)), .val (.int (4 : Int32)), .val (.int (0 : Int32)), .val (.int c0)] [(.int (c0.toInt8.toInt32)), (.int (0 : Int32)), (.ref d0)])) rfl rfl (hb hby own_d_jdk_52_method_21_code_31)
    have N103 := Fr.snoc X103 N0 g0
    have V103 : Arv Z h103 d0 k0 .byte (4 : Int32) [(.int (nar .byte (c0.toInt8.toInt32))), (.int (0 : Int32)), (.int (0 : Int32)), (.int (0 : Int32))] (.int (0 : Int32)) := Arv.set A103 q103 S103 M103 H103 U103 (fits_nar_byte _) W103 0 rfl (Nat.le_of_ble_eq_true rfl)
    refine own_st (S' := T103.setTop (mkF m 32 #[.val (.ref b0), .val (.int (0 : Int32)), .val (.ref d0), .val (.int (0 : Int32)), .val (.int (4 : Int32)), .val (.int (0 : Int32)), .val (.int c0)] [])) st103 ?_
    refine own_st (S' := T103.setTop (mkF m 3 #[.val (.ref b0), .val (.int (1 : Int32)), .val (.ref d0), .val (.int (1 : Int32)), .val (.int (4 : Int32)), .val (.int (1 : Int32)), .val (.int c0)] [])) (fun _ k => XS.iinc X103.here hx rfl (hb hby own_d_jdk_52_method_21_code_32) rfl (l' := #[.val (.ref b0), .val (.int (1 : Int32)), .val (.ref d0), .val (.int (0 : Int32)), .val (.int (4 : Int32)), .val (.int (0 : Int32)), .val (.int c0)]) rfl (XS.iinc X103.here hx rfl (hb hby own_d_jdk_52_method_21_code_35) rfl (l' := #[.val (.ref b0), .val (.int (1 : Int32)), .val (.ref d0), .val (.int (1 : Int32)), .val (.int (4 : Int32)), .val (.int (0 : Int32)), .val (.int c0)]) rfl (XS.iinc X103.here hx rfl (hb hby own_d_jdk_52_method_21_code_38) rfl (l' := #[.val (.ref b0), .val (.int (1 : Int32)), .val (.ref d0), .val (.int (1 : Int32)), .val (.int (4 : Int32)), .val (.int (1 : Int32)), .val (.int c0)]) rfl (XS.goto X103.here hx rfl (pc0 := 41) (pc' := 3) rfl (hb hby own_d_jdk_52_method_21_code_41) (by decide) (by decide) k)))) ?_
    refine own_st (S' := T103.setTop (mkF m 11 #[.val (.ref b0), .val (.int (1 : Int32)), .val (.ref d0), .val (.int (1 : Int32)), .val (.int (4 : Int32)), .val (.int (1 : Int32)), .val (.int c0)] [(.ref b0)])) (fun _ k => XS.iload X103.here hx rfl (hb hby own_d_jdk_52_method_21_code_3) rfl (XS.iload X103.here hx rfl (hb hby own_d_jdk_52_method_21_code_5) rfl (XS.icmpNo X103.here hx rfl (hb hby own_d_jdk_52_method_21_code_7) rfl (by decide) (XS.aloadN X103.here hx rfl (hb hby own_d_jdk_52_method_21_code_10) rfl rfl k)))) ?_
    refine own_st (S' := T103.setTop (mkF m 12 #[.val (.ref b0), .val (.int (1 : Int32)), .val (.ref d0), .val (.int (1 : Int32)), .val (.int (4 : Int32)), .val (.int (1 : Int32)), .val (.int c0)] [(.int (1 : Int32)), (.ref b0)])) (fun _ k => XS.iloadN X103.here hx rfl (hb hby own_d_jdk_52_method_21_code_11) rfl k) ?_
    have V104 : Arv Z h103 b0 kc .char (4 : Int32) [(.int c0), (.int c1), (.int c2), (.int c3)] (.int (0 : Int32)) := (V1.other W103 hbd)
    obtain ⟨c105, A105, q105, S105, M105, H105, U105⟩ := id V104
    have i105 := inb_of (j := (1 : Int32)) S105 ⟨by decide, by decide⟩
    refine own_st (S' := T103.setTop (mkF m 13 #[.val (.ref b0), .val (.int (1 : Int32)), .val (.ref d0), .val (.int (1 : Int32)), .val (.int (4 : Int32)), .val (.int (1 : Int32)), .val (.int c0)] [(.int c1)])) (X103.caload hx (j := (1 : Int32)) (v := (.int c1)) (by rw [e103]; exact A105.1) (State.isArrayOf_alike hZ.alike A105.2.1) A105.2.2 i105 (H105.at i105 rfl) (g := (mkF m 12 #[.val (.ref b0), .val (.int (1 : Int32)), .val (.ref d0), .val (.int (1 : Int32)), .val (.int (4 : Int32)), .val (.int (1 : Int32)), .val (.int c0)] [(.int (1 : Int32)), (.ref b0)])) rfl rfl (hb hby own_d_jdk_52_method_21_code_12)) ?_
    refine own_st (S' := T103.setTop (mkF m 20 #[.val (.ref b0), .val (.int (1 : Int32)), .val (.ref d0), .val (.int (1 : Int32)), .val (.int (4 : Int32)), .val (.int (1 : Int32)), .val (.int c1)] [(.int (255 : Int32)), (.int c1)])) (fun _ k => XS.istore X103.here hx rfl (hb hby own_d_jdk_52_method_21_code_13) rfl (l' := #[.val (.ref b0), .val (.int (1 : Int32)), .val (.ref d0), .val (.int (1 : Int32)), .val (.int (4 : Int32)), .val (.int (1 : Int32)), .val (.int c1)]) rfl (XS.iload X103.here hx rfl (hb hby own_d_jdk_52_method_21_code_15) rfl (XS.sipush X103.here hx rfl (hb hby own_d_jdk_52_method_21_code_17) k))) ?_
    by_cases hc106 : (255 : Int32) < c1
    · refine own_st (S' := T103.setTop (mkF m 25 #[.val (.ref b0), .val (.int (1 : Int32)), .val (.ref d0), .val (.int (1 : Int32)), .val (.int (4 : Int32)), .val (.int (1 : Int32)), .val (.int c1)] [(.int (1 : Int32))])) (fun _ k => XS.icmpNo X103.here hx rfl (hb hby own_d_jdk_52_method_21_code_20) rfl (tlt hc106).2.2.2 (XS.iload X103.here hx rfl (hb hby own_d_jdk_52_method_21_code_23) rfl k)) ?_
      refine own_ret X103 hx hret hlk rfl (Or.inl ⟨rfl, (by simp), _, rfl⟩) (hb hby own_d_jdk_52_method_21_code_25) (by decide) (by decide) ?_
      rw [e103]
      exact ⟨N103, ((Keep.refl _ _).wr W103 (Or.inl (List.mem_of_getElem? (i := 0) rfl))), Or.inr ⟨1, by decide, rfl, hc106⟩⟩
    · refine own_st (S' := T103.setTop (mkF m 30 #[.val (.ref b0), .val (.int (1 : Int32)), .val (.ref d0), .val (.int (1 : Int32)), .val (.int (4 : Int32)), .val (.int (1 : Int32)), .val (.int c1)] [(.int c1), (.int (1 : Int32)), (.ref d0)])) (fun _ k => XS.icmpYes X103.here hx rfl (pc0 := 20) (pc' := 26) rfl (hb hby own_d_jdk_52_method_21_code_20) rfl (flt hc106).2.2.2 (by decide) (by decide) (XS.aloadN X103.here hx rfl (hb hby own_d_jdk_52_method_21_code_26) rfl rfl (XS.iloadN X103.here hx rfl (hb hby own_d_jdk_52_method_21_code_27) rfl (XS.iload X103.here hx rfl (hb hby own_d_jdk_52_method_21_code_28) rfl k)))) ?_
      refine own_st (S' := T103.setTop (mkF m 31 #[.val (.ref b0), .val (.int (1 : Int32)), .val (.ref d0), .val (.int (1 : Int32)), .val (.int (4 : Int32)), .val (.int (1 : Int32)), .val (.int c1)] [(.int (c1.toInt8.toInt32)), (.int (1 : Int32)), (.ref d0)])) (fun _ k => XS.i2b X103.here hx rfl (hb hby own_d_jdk_52_method_21_code_30) rfl k) ?_
      obtain ⟨c107, A107, q107, S107, M107, H107, U107⟩ := id V103
      obtain ⟨T107, h107, X107, e107, W107, st107⟩ := stB X103 hx hZ e103 A107 (j := (1 : Int32)) (inb_of S107 ⟨by decide, by decide⟩) (g := (mkF m 31 #[.val (.ref b0), .val (.int (1 : Int32)), .val (.ref d0), .val (.int (1 : Int32)), .val (.int (4 : Int32)), .val (.int (1 : Int32)), .val (.int c1)] [(.int (c1.toInt8.toInt32)), (.int (1 : Int32)), (.ref d0)])) rfl rfl (hb hby own_d_jdk_52_method_21_code_31)
      have N107 := Fr.snoc X107 N103 g0
      have V107 : Arv Z h107 d0 k0 .byte (4 : Int32) [(.int (nar .byte (c0.toInt8.toInt32))), (.int (nar .byte (c1.toInt8.toInt32))), (.int (0 : Int32)), (.int (0 : Int32))] (.int (0 : Int32)) := Arv.set A107 q107 S107 M107 H107 U107 (fits_nar_byte _) W107 1 rfl (Nat.le_of_ble_eq_true rfl)
      refine own_st (S' := T107.setTop (mkF m 32 #[.val (.ref b0), .val (.int (1 : Int32)), .val (.ref d0), .val (.int (1 : Int32)), .val (.int (4 : Int32)), .val (.int (1 : Int32)), .val (.int c1)] [])) st107 ?_
      refine own_st (S' := T107.setTop (mkF m 3 #[.val (.ref b0), .val (.int (2 : Int32)), .val (.ref d0), .val (.int (2 : Int32)), .val (.int (4 : Int32)), .val (.int (2 : Int32)), .val (.int c1)] [])) (fun _ k => XS.iinc X107.here hx rfl (hb hby own_d_jdk_52_method_21_code_32) rfl (l' := #[.val (.ref b0), .val (.int (2 : Int32)), .val (.ref d0), .val (.int (1 : Int32)), .val (.int (4 : Int32)), .val (.int (1 : Int32)), .val (.int c1)]) rfl (XS.iinc X107.here hx rfl (hb hby own_d_jdk_52_method_21_code_35) rfl (l' := #[.val (.ref b0), .val (.int (2 : Int32)), .val (.ref d0), .val (.int (2 : Int32)), .val (.int (4 : Int32)), .val (.int (1 : Int32)), .val (.int c1)]) rfl (XS.iinc X107.here hx rfl (hb hby own_d_jdk_52_method_21_code_38) rfl (l' := #[.val (.ref b0), .val (.int (2 : Int32)), .val (.ref d0), .val (.int (2 : Int32)), .val (.int (4 : Int32)), .val (.int (2 : Int32)), .val (.int c1)]) rfl (XS.goto X107.here hx rfl (pc0 := 41) (pc' := 3) rfl (hb hby own_d_jdk_52_method_21_code_41) (by decide) (by decide) k)))) ?_
      refine own_st (S' := T107.setTop (mkF m 11 #[.val (.ref b0), .val (.int (2 : Int32)), .val (.ref d0), .val (.int (2 : Int32)), .val (.int (4 : Int32)), .val (.int (2 : Int32)), .val (.int c1)] [(.ref b0)])) (fun _ k => XS.iload X107.here hx rfl (hb hby own_d_jdk_52_method_21_code_3) rfl (XS.iload X107.here hx rfl (hb hby own_d_jdk_52_method_21_code_5) rfl (XS.icmpNo X107.here hx rfl (hb hby own_d_jdk_52_method_21_code_7) rfl (by decide) (XS.aloadN X107.here hx rfl (hb hby own_d_jdk_52_method_21_code_10) rfl rfl k)))) ?_
      refine own_st (S' := T107.setTop (mkF m 12 #[.val (.ref b0), .val (.int (2 : Int32)), .val (.ref d0), .val (.int (2 : Int32)), .val (.int (4 : Int32)), .val (.int (2 : Int32)), .val (.int c1)] [(.int (2 : Int32)), (.ref b0)])) (fun _ k => XS.iloadN X107.here hx rfl (hb hby own_d_jdk_52_method_21_code_11) rfl k) ?_
      have V108 : Arv Z h107 b0 kc .char (4 : Int32) [(.int c0), (.int c1), (.int c2), (.int c3)] (.int (0 : Int32)) := (V104.other W107 hbd)
      obtain ⟨c109, A109, q109, S109, M109, H109, U109⟩ := id V108
      have i109 := inb_of (j := (2 : Int32)) S109 ⟨by decide, by decide⟩
      refine own_st (S' := T107.setTop (mkF m 13 #[.val (.ref b0), .val (.int (2 : Int32)), .val (.ref d0), .val (.int (2 : Int32)), .val (.int (4 : Int32)), .val (.int (2 : Int32)), .val (.int c1)] [(.int c2)])) (X107.caload hx (j := (2 : Int32)) (v := (.int c2)) (by rw [e107]; exact A109.1) (State.isArrayOf_alike hZ.alike A109.2.1) A109.2.2 i109 (H109.at i109 rfl) (g := (mkF m 12 #[.val (.ref b0), .val (.int (2 : Int32)), .val (.ref d0), .val (.int (2 : Int32)), .val (.int (4 : Int32)), .val (.int (2 : Int32)), .val (.int c1)] [(.int (2 : Int32)), (.ref b0)])) rfl rfl (hb hby own_d_jdk_52_method_21_code_12)) ?_
      refine own_st (S' := T107.setTop (mkF m 20 #[.val (.ref b0), .val (.int (2 : Int32)), .val (.ref d0), .val (.int (2 : Int32)), .val (.int (4 : Int32)), .val (.int (2 : Int32)), .val (.int c2)] [(.int (255 : Int32)), (.int c2)])) (fun _ k => XS.istore X107.here hx rfl (hb hby own_d_jdk_52_method_21_code_13) rfl (l' := #[.val (.ref b0), .val (.int (2 : Int32)), .val (.ref d0), .val (.int (2 : Int32)), .val (.int (4 : Int32)), .val (.int (2 : Int32)), .val (.int c2)]) rfl (XS.iload X107.here hx rfl (hb hby own_d_jdk_52_method_21_code_15) rfl (XS.sipush X107.here hx rfl (hb hby own_d_jdk_52_method_21_code_17) k))) ?_
      by_cases hc110 : (255 : Int32) < c2
      · refine own_st (S' := T107.setTop (mkF m 25 #[.val (.ref b0), .val (.int (2 : Int32)), .val (.ref d0), .val (.int (2 : Int32)), .val (.int (4 : Int32)), .val (.int (2 : Int32)), .val (.int c2)] [(.int (2 : Int32))])) (fun _ k => XS.icmpNo X107.here hx rfl (hb hby own_d_jdk_52_method_21_code_20) rfl (tlt hc110).2.2.2 (XS.iload X107.here hx rfl (hb hby own_d_jdk_52_method_21_code_23) rfl k)) ?_
        refine own_ret X107 hx hret hlk rfl (Or.inl ⟨rfl, (by simp), _, rfl⟩) (hb hby own_d_jdk_52_method_21_code_25) (by decide) (by decide) ?_
        rw [e107]
        exact ⟨N107, (((Keep.refl _ _).wr W103 (Or.inl (List.mem_of_getElem? (i := 0) rfl))).wr W107 (Or.inl (List.mem_of_getElem? (i := 0) rfl))), Or.inr ⟨2, by decide, rfl, hc110⟩⟩
      · refine own_st (S' := T107.setTop (mkF m 30 #[.val (.ref b0), .val (.int (2 : Int32)), .val (.ref d0), .val (.int (2 : Int32)), .val (.int (4 : Int32)), .val (.int (2 : Int32)), .val (.int c2)] [(.int c2), (.int (2 : Int32)), (.ref d0)])) (fun _ k => XS.icmpYes X107.here hx rfl (pc0 := 20) (pc' := 26) rfl (hb hby own_d_jdk_52_method_21_code_20) rfl (flt hc110).2.2.2 (by decide) (by decide) (XS.aloadN X107.here hx rfl (hb hby own_d_jdk_52_method_21_code_26) rfl rfl (XS.iloadN X107.here hx rfl (hb hby own_d_jdk_52_method_21_code_27) rfl (XS.iload X107.here hx rfl (hb hby own_d_jdk_52_method_21_code_28) rfl k)))) ?_
        refine own_st (S' := T107.setTop (mkF m 31 #[.val (.ref b0), .val (.int (2 : Int32)), .val (.ref d0), .val (.int (2 : Int32)), .val (.int (4 : Int32)), .val (.int (2 : Int32)), .val (.int c2)] [(.int (c2.toInt8.toInt32)), (.int (2 : Int32)), (.ref d0)])) (fun _ k => XS.i2b X107.here hx rfl (hb hby own_d_jdk_52_method_21_code_30) rfl k) ?_
        obtain ⟨c111, A111, q111, S111, M111, H111, U111⟩ := id V107
        obtain ⟨T111, h111, X111, e111, W111, st111⟩ := stB X107 hx hZ e107 A111 (j := (2 : Int32)) (inb_of S111 ⟨by decide, by decide⟩) (g := (mkF m 31 #[.val (.ref b0), .val (.int (2 : Int32)), .val (.ref d0), .val (.int (2 : Int32)), .val (.int (4 : Int32)), .val (.int (2 : Int32)), .val (.int c2)] [(.int (c2.toInt8.toInt32)), (.int (2 : Int32)), (.ref d0)])) rfl rfl (hb hby own_d_jdk_52_method_21_code_31)
        have N111 := Fr.snoc X111 N107 g0
        have V111 : Arv Z h111 d0 k0 .byte (4 : Int32) [(.int (nar .byte (c0.toInt8.toInt32))), (.int (nar .byte (c1.toInt8.toInt32))), (.int (nar .byte (c2.toInt8.toInt32))), (.int (0 : Int32))] (.int (0 : Int32)) := Arv.set A111 q111 S111 M111 H111 U111 (fits_nar_byte _) W111 2 rfl (Nat.le_of_ble_eq_true rfl)
        refine own_st (S' := T111.setTop (mkF m 32 #[.val (.ref b0), .val (.int (2 : Int32)), .val (.ref d0), .val (.int (2 : Int32)), .val (.int (4 : Int32)), .val (.int (2 : Int32)), .val (.int c2)] [])) st111 ?_
        refine own_st (S' := T111.setTop (mkF m 3 #[.val (.ref b0), .val (.int (3 : Int32)), .val (.ref d0), .val (.int (3 : Int32)), .val (.int (4 : Int32)), .val (.int (3 : Int32)), .val (.int c2)] [])) (fun _ k => XS.iinc X111.here hx rfl (hb hby own_d_jdk_52_method_21_code_32) rfl (l' := #[.val (.ref b0), .val (.int (3 : Int32)), .val (.ref d0), .val (.int (2 : Int32)), .val (.int (4 : Int32)), .val (.int (2 : Int32)), .val (.int c2)]) rfl (XS.iinc X111.here hx rfl (hb hby own_d_jdk_52_method_21_code_35) rfl (l' := #[.val (.ref b0), .val (.int (3 : Int32)), .val (.ref d0), .val (.int (3 : Int32)), .val (.int (4 : Int32)), .val (.int (2 : Int32)), .val (.int c2)]) rfl (XS.iinc X111.here hx rfl (hb hby own_d_jdk_52_method_21_code_38) rfl (l' := #[.val (.ref b0), .val (.int (3 : Int32)), .val (.ref d0), .val (.int (3 : Int32)), .val (.int (4 : Int32)), .val (.int (3 : Int32)), .val (.int c2)]) rfl (XS.goto X111.here hx rfl (pc0 := 41) (pc' := 3) rfl (hb hby own_d_jdk_52_method_21_code_41) (by decide) (by decide) k)))) ?_
        refine own_st (S' := T111.setTop (mkF m 11 #[.val (.ref b0), .val (.int (3 : Int32)), .val (.ref d0), .val (.int (3 : Int32)), .val (.int (4 : Int32)), .val (.int (3 : Int32)), .val (.int c2)] [(.ref b0)])) (fun _ k => XS.iload X111.here hx rfl (hb hby own_d_jdk_52_method_21_code_3) rfl (XS.iload X111.here hx rfl (hb hby own_d_jdk_52_method_21_code_5) rfl (XS.icmpNo X111.here hx rfl (hb hby own_d_jdk_52_method_21_code_7) rfl (by decide) (XS.aloadN X111.here hx rfl (hb hby own_d_jdk_52_method_21_code_10) rfl rfl k)))) ?_
        refine own_st (S' := T111.setTop (mkF m 12 #[.val (.ref b0), .val (.int (3 : Int32)), .val (.ref d0), .val (.int (3 : Int32)), .val (.int (4 : Int32)), .val (.int (3 : Int32)), .val (.int c2)] [(.int (3 : Int32)), (.ref b0)])) (fun _ k => XS.iloadN X111.here hx rfl (hb hby own_d_jdk_52_method_21_code_11) rfl k) ?_
        have V112 : Arv Z h111 b0 kc .char (4 : Int32) [(.int c0), (.int c1), (.int c2), (.int c3)] (.int (0 : Int32)) := (V108.other W111 hbd)
        obtain ⟨c113, A113, q113, S113, M113, H113, U113⟩ := id V112
        have i113 := inb_of (j := (3 : Int32)) S113 ⟨by decide, by decide⟩
        refine own_st (S' := T111.setTop (mkF m 13 #[.val (.ref b0), .val (.int (3 : Int32)), .val (.ref d0), .val (.int (3 : Int32)), .val (.int (4 : Int32)), .val (.int (3 : Int32)), .val (.int c2)] [(.int c3)])) (X111.caload hx (j := (3 : Int32)) (v := (.int c3)) (by rw [e111]; exact A113.1) (State.isArrayOf_alike hZ.alike A113.2.1) A113.2.2 i113 (H113.at i113 rfl) (g := (mkF m 12 #[.val (.ref b0), .val (.int (3 : Int32)), .val (.ref d0), .val (.int (3 : Int32)), .val (.int (4 : Int32)), .val (.int (3 : Int32)), .val (.int c2)] [(.int (3 : Int32)), (.ref b0)])) rfl rfl (hb hby own_d_jdk_52_method_21_code_12)) ?_
        refine own_st (S' := T111.setTop (mkF m 20 #[.val (.ref b0), .val (.int (3 : Int32)), .val (.ref d0), .val (.int (3 : Int32)), .val (.int (4 : Int32)), .val (.int (3 : Int32)), .val (.int c3)] [(.int (255 : Int32)), (.int c3)])) (fun _ k => XS.istore X111.here hx rfl (hb hby own_d_jdk_52_method_21_code_13) rfl (l' := #[.val (.ref b0), .val (.int (3 : Int32)), .val (.ref d0), .val (.int (3 : Int32)), .val (.int (4 : Int32)), .val (.int (3 : Int32)), .val (.int c3)]) rfl (XS.iload X111.here hx rfl (hb hby own_d_jdk_52_method_21_code_15) rfl (XS.sipush X111.here hx rfl (hb hby own_d_jdk_52_method_21_code_17) k))) ?_
        by_cases hc114 : (255 : Int32) < c3
        · refine own_st (S' := T111.setTop (mkF m 25 #[.val (.ref b0), .val (.int (3 : Int32)), .val (.ref d0), .val (.int (3 : Int32)), .val (.int (4 : Int32)), .val (.int (3 : Int32)), .val (.int c3)] [(.int (3 : Int32))])) (fun _ k => XS.icmpNo X111.here hx rfl (hb hby own_d_jdk_52_method_21_code_20) rfl (tlt hc114).2.2.2 (XS.iload X111.here hx rfl (hb hby own_d_jdk_52_method_21_code_23) rfl k)) ?_
          refine own_ret X111 hx hret hlk rfl (Or.inl ⟨rfl, (by simp), _, rfl⟩) (hb hby own_d_jdk_52_method_21_code_25) (by decide) (by decide) ?_
          rw [e111]
          exact ⟨N111, ((((Keep.refl _ _).wr W103 (Or.inl (List.mem_of_getElem? (i := 0) rfl))).wr W107 (Or.inl (List.mem_of_getElem? (i := 0) rfl))).wr W111 (Or.inl (List.mem_of_getElem? (i := 0) rfl))), Or.inr ⟨3, by decide, rfl, hc114⟩⟩
        · refine own_st (S' := T111.setTop (mkF m 30 #[.val (.ref b0), .val (.int (3 : Int32)), .val (.ref d0), .val (.int (3 : Int32)), .val (.int (4 : Int32)), .val (.int (3 : Int32)), .val (.int c3)] [(.int c3), (.int (3 : Int32)), (.ref d0)])) (fun _ k => XS.icmpYes X111.here hx rfl (pc0 := 20) (pc' := 26) rfl (hb hby own_d_jdk_52_method_21_code_20) rfl (flt hc114).2.2.2 (by decide) (by decide) (XS.aloadN X111.here hx rfl (hb hby own_d_jdk_52_method_21_code_26) rfl rfl (XS.iloadN X111.here hx rfl (hb hby own_d_jdk_52_method_21_code_27) rfl (XS.iload X111.here hx rfl (hb hby own_d_jdk_52_method_21_code_28) rfl k)))) ?_
          refine own_st (S' := T111.setTop (mkF m 31 #[.val (.ref b0), .val (.int (3 : Int32)), .val (.ref d0), .val (.int (3 : Int32)), .val (.int (4 : Int32)), .val (.int (3 : Int32)), .val (.int c3)] [(.int (c3.toInt8.toInt32)), (.int (3 : Int32)), (.ref d0)])) (fun _ k => XS.i2b X111.here hx rfl (hb hby own_d_jdk_52_method_21_code_30) rfl k) ?_
          obtain ⟨c115, A115, q115, S115, M115, H115, U115⟩ := id V111
          obtain ⟨T115, h115, X115, e115, W115, st115⟩ := stB X111 hx hZ e111 A115 (j := (3 : Int32)) (inb_of S115 ⟨by decide, by decide⟩) (g := (mkF m 31 #[.val (.ref b0), .val (.int (3 : Int32)), .val (.ref d0), .val (.int (3 : Int32)), .val (.int (4 : Int32)), .val (.int (3 : Int32)), .val (.int c3)] [(.int (c3.toInt8.toInt32)), (.int (3 : Int32)), (.ref d0)])) rfl rfl (hb hby own_d_jdk_52_method_21_code_31)
          have N115 := Fr.snoc X115 N111 g0
          have V115 : Arv Z h115 d0 k0 .byte (4 : Int32) [(.int (nar .byte (c0.toInt8.toInt32))), (.int (nar .byte (c1.toInt8.toInt32))), (.int (nar .byte (c2.toInt8.toInt32))), (.int (nar .byte (c3.toInt8.toInt32)))] (.int (0 : Int32)) := Arv.set A115 q115 S115 M115 H115 U115 (fits_nar_byte _) W115 3 rfl (Nat.le_of_ble_eq_true rfl)
          refine own_st (S' := T115.setTop (mkF m 32 #[.val (.ref b0), .val (.int (3 : Int32)), .val (.ref d0), .val (.int (3 : Int32)), .val (.int (4 : Int32)), .val (.int (3 : Int32)), .val (.int c3)] [])) st115 ?_
          refine own_st (S' := T115.setTop (mkF m 3 #[.val (.ref b0), .val (.int (4 : Int32)), .val (.ref d0), .val (.int (4 : Int32)), .val (.int (4 : Int32)), .val (.int (4 : Int32)), .val (.int c3)] [])) (fun _ k => XS.iinc X115.here hx rfl (hb hby own_d_jdk_52_method_21_code_32) rfl (l' := #[.val (.ref b0), .val (.int (4 : Int32)), .val (.ref d0), .val (.int (3 : Int32)), .val (.int (4 : Int32)), .val (.int (3 : Int32)), .val (.int c3)]) rfl (XS.iinc X115.here hx rfl (hb hby own_d_jdk_52_method_21_code_35) rfl (l' := #[.val (.ref b0), .val (.int (4 : Int32)), .val (.ref d0), .val (.int (4 : Int32)), .val (.int (4 : Int32)), .val (.int (3 : Int32)), .val (.int c3)]) rfl (XS.iinc X115.here hx rfl (hb hby own_d_jdk_52_method_21_code_38) rfl (l' := #[.val (.ref b0), .val (.int (4 : Int32)), .val (.ref d0), .val (.int (4 : Int32)), .val (.int (4 : Int32)), .val (.int (4 : Int32)), .val (.int c3)]) rfl (XS.goto X115.here hx rfl (pc0 := 41) (pc' := 3) rfl (hb hby own_d_jdk_52_method_21_code_41) (by decide) (by decide) k)))) ?_
          refine own_st (S' := T115.setTop (mkF m 46 #[.val (.ref b0), .val (.int (4 : Int32)), .val (.ref d0), .val (.int (4 : Int32)), .val (.int (4 : Int32)), .val (.int (4 : Int32)), .val (.int c3)] [(.int (4 : Int32))])) (fun _ k => XS.iload X115.here hx rfl (hb hby own_d_jdk_52_method_21_code_3) rfl (XS.iload X115.here hx rfl (hb hby own_d_jdk_52_method_21_code_5) rfl (XS.icmpYes X115.here hx rfl (pc0 := 7) (pc' := 44) rfl (hb hby own_d_jdk_52_method_21_code_7) rfl (by decide) (by decide) (by decide) (XS.iload X115.here hx rfl (hb hby own_d_jdk_52_method_21_code_44) rfl k)))) ?_
          refine own_ret X115 hx hret hlk rfl (Or.inl ⟨rfl, (by simp), _, rfl⟩) (hb hby own_d_jdk_52_method_21_code_46) (by decide) (by decide) ?_
          rw [e115]
          exact ⟨N115, (((((Keep.refl _ _).wr W103 (Or.inl (List.mem_of_getElem? (i := 0) rfl))).wr W107 (Or.inl (List.mem_of_getElem? (i := 0) rfl))).wr W111 (Or.inl (List.mem_of_getElem? (i := 0) rfl))).wr W115 (Or.inl (List.mem_of_getElem? (i := 0) rfl))), Or.inl ⟨rfl, ⟨hc102, hc106, hc110, hc114⟩, (by have q := V115; rw [own_nb c0, own_nb c1, own_nb c2, own_nb c3] at q; exact q)⟩⟩
def own_Q_cod44 (Z : State) (h0 : Heap) (n0 : Nat) (v : Option Value) (h : Heap) (L : List Loc) : Prop := v = some (.int 0) ∧ Fr n0 L ∧ h = h0
theorem own_ef_cod44 (m : MethodId) (d0 : Addr) : entryFrame m #[(.ref d0), (.int (4 : Int32))] 2 = mkF m 0 #[.val (.ref d0), .val (.int (4 : Int32))] [] := by first | (simp [entryFrame, mkF, argsToLocals, Value.category, maxLocals]; done) | rfl
set_option maxRecDepth 65536 in
set_option maxHeartbeats 40000000 in
theorem own_rm_cod44 (l : Launch) (Z : State) (a0 : Array Value) (hw : ∀ d ∈ tables_1, d.before a0 Z = true) (G1 : Int32) (S1 : Sta Z Z.heap "java/lang/String" "COMPACT_STRINGS" "Z" (.int G1)) (P1 : ¬ G1 = 0) (G3 : Value) (S3 : Sta Z Z.heap "jdk/internal/util/Preconditions" "SIOOBE_FORMATTER" "Ljava/util/function/BiFunction;" G3) (P3 : G3.isRef = true) (S4 : Sta Z Z.heap "java/lang/StringUTF16" "$assertionsDisabled" "Z" (.int (1 : Int32))) (S5 : Sta Z Z.heap "java/lang/StringUTF16" "HI_BYTE_SHIFT" "I" (.int (0 : Int32))) (S6 : Sta Z Z.heap "java/lang/StringUTF16" "LO_BYTE_SHIFT" "I" (.int (8 : Int32))) (ws : List Jvm.Cond) (d0 : Addr) (k0 : ClassId) (vs : List Value) (h0 : Heap) (n0 : Nat) (Z0 : n0 ≤ h0.size) (XO : Old Z n0 h0) (V1 : Arv Z h0 d0 k0 .byte (4 : Int32) vs (.int (0 : Int32))) :
    own_Met l Z h0 (⟨"java/lang/StringUTF16", "coderFromArrayLen", "([BI)B"⟩ : MethodName) jdk_52_method_15_code 2 (some .byte) ws { frames := 0, cells := 0, slots := 0, locals := 0 } #[(.ref d0), (.int (4 : Int32))] (own_Q_cod44 Z h0 n0) := by
  refine own_enter (plainFor_of_name own_pn2) (fun p e s m below meth c s₁ hx hby hlk hml hown hnm hret hZ X0 e0 => ?_)
  have N0 := Fr.nil n0
  refine own_st (S' := s₁.setTop (mkF m 0 #[.val (.ref d0), .val (.int (4 : Int32))] [])) (fun _ k => castTop (own_ef_cod44 m d0) k) ?_
  refine own_st (S' := s₁.setTop (mkF m 2 #[.val (.ref d0), .val (.int (4 : Int32))] [(.ref d0), (.int (4 : Int32))])) (fun _ k => XS.iloadN X0.here hx rfl (hb hby own_d_jdk_52_method_15_code_0) rfl (XS.aloadN X0.here hx rfl (hb hby own_d_jdk_52_method_15_code_1) rfl rfl k)) ?_
  obtain ⟨c101, A101, q101, S101, M101, H101, U101⟩ := id V1
  refine own_st (S' := s₁.setTop (mkF m 3 #[.val (.ref d0), .val (.int (4 : Int32))] [(.int (4 : Int32)), (.int (4 : Int32))])) (len_of S101 M101 ▸ X0.arraylength hx (by rw [e0]; exact A101.1) (State.isArrayOf_alike hZ.alike A101.2.1) (g := (mkF m 2 #[.val (.ref d0), .val (.int (4 : Int32))] [(.ref d0), (.int (4 : Int32))])) rfl rfl (hb hby own_d_jdk_52_method_15_code_2)) ?_
  refine own_st (S' := s₁.setTop (mkF m 7 #[.val (.ref d0), .val (.int (4 : Int32))] [(.int (((0 : Int32).toUInt32 >>> ((31 : Int32) &&& 31).toUInt32).toInt32))])) (fun _ k => XS.isub X0.here hx rfl (hb hby own_d_jdk_52_method_15_code_3) rfl (XS.bipush X0.here hx rfl (hb hby own_d_jdk_52_method_15_code_4) (XS.iushr X0.here hx rfl (hb hby own_d_jdk_52_method_15_code_6) rfl k))) ?_
  rw [show (((0 : Int32).toUInt32 >>> ((31 : Int32) &&& 31).toUInt32).toInt32) = (0 : Int32) from by decide]
  refine own_st (S' := s₁.setTop (mkF m 8 #[.val (.ref d0), .val (.int (4 : Int32))] [(.int ((0 : Int32).toInt8.toInt32))])) (fun _ k => XS.i2b X0.here hx rfl (hb hby own_d_jdk_52_method_15_code_7) rfl k) ?_
  rw [show ((0 : Int32).toInt8.toInt32) = (0 : Int32) from by decide]
  refine own_ret X0 hx hret hlk rfl (Or.inl ⟨rfl, (by simp), _, rfl⟩) (hb hby own_d_jdk_52_method_15_code_8) (by decide) (by decide) ?_
  rw [e0]
  exact ⟨rfl, N0, rfl⟩
def own_Q_cod48 (Z : State) (h0 : Heap) (n0 : Nat) (v : Option Value) (h : Heap) (L : List Loc) : Prop := v = some (.int 1) ∧ Fr n0 L ∧ h = h0
theorem own_ef_cod48 (m : MethodId) (d0 : Addr) : entryFrame m #[(.ref d0), (.int (4 : Int32))] 2 = mkF m 0 #[.val (.ref d0), .val (.int (4 : Int32))] [] := by first | (simp [entryFrame, mkF, argsToLocals, Value.category, maxLocals]; done) | rfl
set_option maxRecDepth 65536 in
set_option maxHeartbeats 40000000 in
theorem own_rm_cod48 (l : Launch) (Z : State) (a0 : Array Value) (hw : ∀ d ∈ tables_1, d.before a0 Z = true) (G1 : Int32) (S1 : Sta Z Z.heap "java/lang/String" "COMPACT_STRINGS" "Z" (.int G1)) (P1 : ¬ G1 = 0) (G3 : Value) (S3 : Sta Z Z.heap "jdk/internal/util/Preconditions" "SIOOBE_FORMATTER" "Ljava/util/function/BiFunction;" G3) (P3 : G3.isRef = true) (S4 : Sta Z Z.heap "java/lang/StringUTF16" "$assertionsDisabled" "Z" (.int (1 : Int32))) (S5 : Sta Z Z.heap "java/lang/StringUTF16" "HI_BYTE_SHIFT" "I" (.int (0 : Int32))) (S6 : Sta Z Z.heap "java/lang/StringUTF16" "LO_BYTE_SHIFT" "I" (.int (8 : Int32))) (ws : List Jvm.Cond) (d0 : Addr) (k0 : ClassId) (vs : List Value) (h0 : Heap) (n0 : Nat) (Z0 : n0 ≤ h0.size) (XO : Old Z n0 h0) (V1 : Arv Z h0 d0 k0 .byte (8 : Int32) vs (.int (0 : Int32))) :
    own_Met l Z h0 (⟨"java/lang/StringUTF16", "coderFromArrayLen", "([BI)B"⟩ : MethodName) jdk_52_method_15_code 2 (some .byte) ws { frames := 0, cells := 0, slots := 0, locals := 0 } #[(.ref d0), (.int (4 : Int32))] (own_Q_cod48 Z h0 n0) := by
  refine own_enter (plainFor_of_name own_pn2) (fun p e s m below meth c s₁ hx hby hlk hml hown hnm hret hZ X0 e0 => ?_)
  have N0 := Fr.nil n0
  refine own_st (S' := s₁.setTop (mkF m 0 #[.val (.ref d0), .val (.int (4 : Int32))] [])) (fun _ k => castTop (own_ef_cod48 m d0) k) ?_
  refine own_st (S' := s₁.setTop (mkF m 2 #[.val (.ref d0), .val (.int (4 : Int32))] [(.ref d0), (.int (4 : Int32))])) (fun _ k => XS.iloadN X0.here hx rfl (hb hby own_d_jdk_52_method_15_code_0) rfl (XS.aloadN X0.here hx rfl (hb hby own_d_jdk_52_method_15_code_1) rfl rfl k)) ?_
  obtain ⟨c101, A101, q101, S101, M101, H101, U101⟩ := id V1
  refine own_st (S' := s₁.setTop (mkF m 3 #[.val (.ref d0), .val (.int (4 : Int32))] [(.int (8 : Int32)), (.int (4 : Int32))])) (len_of S101 M101 ▸ X0.arraylength hx (by rw [e0]; exact A101.1) (State.isArrayOf_alike hZ.alike A101.2.1) (g := (mkF m 2 #[.val (.ref d0), .val (.int (4 : Int32))] [(.ref d0), (.int (4 : Int32))])) rfl rfl (hb hby own_d_jdk_52_method_15_code_2)) ?_
  refine own_st (S' := s₁.setTop (mkF m 7 #[.val (.ref d0), .val (.int (4 : Int32))] [(.int (((-4 : Int32).toUInt32 >>> ((31 : Int32) &&& 31).toUInt32).toInt32))])) (fun _ k => XS.isub X0.here hx rfl (hb hby own_d_jdk_52_method_15_code_3) rfl (XS.bipush X0.here hx rfl (hb hby own_d_jdk_52_method_15_code_4) (XS.iushr X0.here hx rfl (hb hby own_d_jdk_52_method_15_code_6) rfl k))) ?_
  rw [show (((-4 : Int32).toUInt32 >>> ((31 : Int32) &&& 31).toUInt32).toInt32) = (1 : Int32) from by decide]
  refine own_st (S' := s₁.setTop (mkF m 8 #[.val (.ref d0), .val (.int (4 : Int32))] [(.int ((1 : Int32).toInt8.toInt32))])) (fun _ k => XS.i2b X0.here hx rfl (hb hby own_d_jdk_52_method_15_code_7) rfl k) ?_
  rw [show ((1 : Int32).toInt8.toInt32) = (1 : Int32) from by decide]
  refine own_ret X0 hx hret hlk rfl (Or.inl ⟨rfl, (by simp), _, rfl⟩) (hb hby own_d_jdk_52_method_15_code_8) (by decide) (by decide) ?_
  rw [e0]
  exact ⟨rfl, N0, rfl⟩
def own_Q_cm34 (Z : State) (c0 c1 c2 c3 : Int32) (h0 : Heap) (n0 : Nat) (v : Option Value) (h : Heap) (L : List Loc) : Prop := ∃ (r : Addr) (k : ClassId), v = some (.ref r) ∧ Fr n0 L ∧ Ext h0 h ∧ h0.size ≤ r ∧ (((¬ ((255 : Int32) < c0) ∧ ¬ ((255 : Int32) < c1) ∧ ¬ ((255 : Int32) < c2) ∧ ¬ ((255 : Int32) < c3)) ∧ Arv Z h r k .byte (4 : Int32) [.int (StrChars.lo8 c0), .int (StrChars.lo8 c1), .int (StrChars.lo8 c2), .int (StrChars.lo8 c3)] (.int (0 : Int32))) ∨ (((255 : Int32) < c0 ∨ (255 : Int32) < c1 ∨ (255 : Int32) < c2 ∨ (255 : Int32) < c3) ∧ Arv Z h r k .byte (8 : Int32) [.int (StrChars.lo8 c0), .int (StrChars.hi8 c0), .int (StrChars.lo8 c1), .int (StrChars.hi8 c1), .int (StrChars.lo8 c2), .int (StrChars.hi8 c2), .int (StrChars.lo8 c3), .int (StrChars.hi8 c3)] (.int (0 : Int32))))
theorem own_ef_cm34 (m : MethodId) (b0 : Addr) : entryFrame m #[(.ref b0), (.int (0 : Int32)), (.int (4 : Int32))] 6 = mkF m 0 #[.val (.ref b0), .val (.int (0 : Int32)), .val (.int (4 : Int32)), .unset, .unset, .unset] [] := by first | (simp [entryFrame, mkF, argsToLocals, Value.category, maxLocals]; done) | rfl
set_option maxRecDepth 65536 in
set_option maxHeartbeats 40000000 in
theorem own_rm_cm34 (l : Launch) (Z : State) (a0 : Array Value) (hw : ∀ d ∈ tables_1, d.before a0 Z = true) (G1 : Int32) (S1 : Sta Z Z.heap "java/lang/String" "COMPACT_STRINGS" "Z" (.int G1)) (P1 : ¬ G1 = 0) (G3 : Value) (S3 : Sta Z Z.heap "jdk/internal/util/Preconditions" "SIOOBE_FORMATTER" "Ljava/util/function/BiFunction;" G3) (P3 : G3.isRef = true) (S4 : Sta Z Z.heap "java/lang/StringUTF16" "$assertionsDisabled" "Z" (.int (1 : Int32))) (S5 : Sta Z Z.heap "java/lang/StringUTF16" "HI_BYTE_SHIFT" "I" (.int (0 : Int32))) (S6 : Sta Z Z.heap "java/lang/StringUTF16" "LO_BYTE_SHIFT" "I" (.int (8 : Int32))) (ws : List Jvm.Cond) (b0 : Addr) (kc : ClassId) (c0 c1 c2 c3 : Int32) (h0 : Heap) (n0 : Nat) (Z0 : n0 ≤ h0.size) (XO : Old Z n0 h0) (V1 : Arv Z h0 b0 kc .char (4 : Int32) [.int c0, .int c1, .int c2, .int c3] (.int (0 : Int32))) (hp0 : ¬ c0 < 0 ∧ ¬ (65535 : Int32) < c0) (hp1 : ¬ c1 < 0 ∧ ¬ (65535 : Int32) < c1) (hp2 : ¬ c2 < 0 ∧ ¬ (65535 : Int32) < c2) (hp3 : ¬ c3 < 0 ∧ ¬ (65535 : Int32) < c3) :
    own_Met l Z h0 (⟨"java/lang/StringUTF16", "compress", "([CII)[B"⟩ : MethodName) jdk_52_method_16_code 6 (some (.array .byte)) ws { frames := 3, cells := 2, slots := 12, locals := 40 } #[(.ref b0), (.int (0 : Int32)), (.int (4 : Int32))] (own_Q_cm34 Z c0 c1 c2 c3 h0 n0) := by
  refine own_enter (plainFor_of_name own_pn2) (fun p e s m below meth c s₁ hx hby hlk hml hown hnm hret hZ X0 e0 => ?_)
  have N0 := Fr.nil n0
  refine own_st (S' := s₁.setTop (mkF m 0 #[.val (.ref b0), .val (.int (0 : Int32)), .val (.int (4 : Int32)), .unset, .unset, .unset] [])) (fun _ k => castTop (own_ef_cm34 m b0) k) ?_
  refine own_st (S' := s₁.setTop (mkF m 1 #[.val (.ref b0), .val (.int (0 : Int32)), .val (.int (4 : Int32)), .unset, .unset, .unset] [(.int (4 : Int32))])) (fun _ k => XS.iloadN X0.here hx rfl (hb hby own_d_jdk_52_method_16_code_0) rfl k) ?_
  obtain ⟨T101, h101, k101, X101, e101, E101, A101, AE101, st101⟩ := newPE X0 hx hZ (aty := .byte) (hw _ own_w24) e0 (g := (mkF m 1 #[.val (.ref b0), .val (.int (0 : Int32)), .val (.int (4 : Int32)), .unset, .unset, .unset] [(.int (4 : Int32))])) rfl (hb hby own_d_jdk_52_method_16_code_1) rfl (by decide) (cap := 4) (by decide) (by decide) (by decide) (by decide) (ad := "[B") (by decide)
  obtain ⟨b101, g101⟩ : ∃ z, z = h0.size := ⟨_, rfl⟩
  rw [← g101] at A101 AE101 st101
  have V101 : Arv Z h101 b101 k101 .byte (4 : Int32) [(.int (0 : Int32)), (.int (0 : Int32)), (.int (0 : Int32)), (.int (0 : Int32))] (.int (0 : Int32)) := (Arv.new A101 (by decide)).pad (pad_rep [] (.int (0 : Int32)) 4)
  refine own_st (S' := T101.setTop (mkF m 3 #[.val (.ref b0), .val (.int (0 : Int32)), .val (.int (4 : Int32)), .unset, .unset, .unset] [(.ref b101)])) st101 ?_
  refine own_st (S' := T101.setTop (mkF m 7 #[.val (.ref b0), .val (.int (0 : Int32)), .val (.int (4 : Int32)), .val (.ref b101), .unset, .unset] [(.ref b101), (.int (0 : Int32)), (.ref b0)])) (fun _ k => XS.astoreN X101.here hx rfl (hb hby own_d_jdk_52_method_16_code_3) rfl rfl (l' := #[.val (.ref b0), .val (.int (0 : Int32)), .val (.int (4 : Int32)), .val (.ref b101), .unset, .unset]) rfl (XS.aloadN X101.here hx rfl (hb hby own_d_jdk_52_method_16_code_4) rfl rfl (XS.iloadN X101.here hx rfl (hb hby own_d_jdk_52_method_16_code_5) rfl (XS.aloadN X101.here hx rfl (hb hby own_d_jdk_52_method_16_code_6) rfl rfl k)))) ?_
  refine own_st (S' := T101.setTop (mkF m 9 #[.val (.ref b0), .val (.int (0 : Int32)), .val (.int (4 : Int32)), .val (.ref b101), .unset, .unset] [(.int (4 : Int32)), (.int (0 : Int32)), (.ref b101), (.int (0 : Int32)), (.ref b0)])) (fun _ k => XS.iconst X101.here hx rfl (hb hby own_d_jdk_52_method_16_code_7) (XS.iloadN X101.here hx rfl (hb hby own_d_jdk_52_method_16_code_8) rfl k)) ?_
  have V102 : Arv Z h101 b0 kc .char (4 : Int32) [(.int c0), (.int c1), (.int c2), (.int c3)] (.int (0 : Int32)) := (V1.ext E101)
  have XO103 : Old Z n0 h101 := (XO.ext E101)
  obtain ⟨_, _, ⟨T104, L104, k104, n104⟩, -, X104, ⟨Lc104, hQ104, l104, y104, z104⟩, st104⟩ := Jvm.LawKit.callS X101 hx (y := (⟨"java/lang/StringUTF16", "compress", "([CI[BII)I"⟩ : MethodName)) hown (mvT hZ (hw _ own_w25)) (mvT hZ (hw _ own_w26)) (mvT hZ (hw _ own_w22)) (mvT hZ (hw _ own_w27)) (by decide) (backOf (W := 0) (own_rm_cm54 l Z a0 hw G1 S1 P1 G3 S3 P3 S4 S5 S6 [] b0 b101 kc k101 c0 c1 c2 c3 h101 n0 (Nat.le_trans Z0 E101.1) XO103 (Nat.le_trans Z0 (Nat.le_of_eq g101.symm)) (Nat.ne_of_lt (Nat.lt_of_lt_of_le V1.lt (Nat.le_of_eq g101.symm))) V102 V101) hZ (hw _ own_w27) (hw _ own_w22) (by decide) (by decide)) (g := (mkF m 9 #[.val (.ref b0), .val (.int (0 : Int32)), .val (.int (4 : Int32)), .val (.ref b101), .unset, .unset] [(.int (4 : Int32)), (.int (0 : Int32)), (.ref b101), (.int (0 : Int32)), (.ref b0)])) rfl (by rw [hml]; rfl) (argsL := [(.ref b0), (.int (0 : Int32)), (.ref b101), (.int (0 : Int32)), (.int (4 : Int32))]) (rest := []) (lenOf own_pd9 rfl) rfl (by show 2 * 0 + _ ≤ _; exact Nat.le_of_eq rfl) (hb hby own_d_jdk_52_method_16_code_9) (fun _ _ => ⟨rfl, e101, (by decide : 1 + 0 ≤ _), (by decide : 4 + 0 ≤ _)⟩)
  dsimp only [Pt.U, Pt.locs, Pt.cells, Pt.slots] at X104 l104 y104 z104 st104 hQ104
  subst l104 y104 z104
  obtain ⟨M104, K104, o104⟩ := hQ104
  have N104 := Fr.app N0 M104
  obtain ⟨h104, e104⟩ : ∃ z, T104.heap = z := ⟨_, rfl⟩
  rw [e104] at K104 o104
  rcases o104 with ⟨rfl, hs104, V104⟩ | ⟨j104, hj104, rfl, hb104⟩
  · refine own_st (S' := T104.setTop (mkF m 12 #[.val (.ref b0), .val (.int (0 : Int32)), .val (.int (4 : Int32)), .val (.ref b101), .unset, .unset] [(.int (4 : Int32))])) st104 ?_
    refine own_st (S' := T104.setTop (mkF m 57 #[.val (.ref b0), .val (.int (0 : Int32)), .val (.int (4 : Int32)), .val (.ref b101), .val (.int (4 : Int32)), .unset] [])) (fun _ k => XS.istore X104.here hx rfl (hb hby own_d_jdk_52_method_16_code_12) rfl (l' := #[.val (.ref b0), .val (.int (0 : Int32)), .val (.int (4 : Int32)), .val (.ref b101), .val (.int (4 : Int32)), .unset]) rfl (XS.iload X104.here hx rfl (hb hby own_d_jdk_52_method_16_code_14) rfl (XS.iloadN X104.here hx rfl (hb hby own_d_jdk_52_method_16_code_16) rfl (XS.icmpYes X104.here hx rfl (pc0 := 17) (pc' := 57) rfl (hb hby own_d_jdk_52_method_16_code_17) rfl (by decide) (by decide) (by decide) k)))) ?_
    refine own_st (S' := T104.setTop (mkF m 58 #[.val (.ref b0), .val (.int (0 : Int32)), .val (.int (4 : Int32)), .val (.ref b101), .val (.int (4 : Int32)), .unset] [(.ref b101)])) (fun _ k => XS.aloadN X104.here hx rfl (hb hby own_d_jdk_52_method_16_code_57) rfl rfl k) ?_
    have XE105 : Ext h0 h104 := (own_xk E101 K104 (allS (Nat.le_of_eq g101.symm) all0))
    refine own_ret X104 hx hret hlk rfl (Or.inr (Or.inr (Or.inr (Or.inr ⟨rfl, rfl, rfl⟩)))) (hb hby own_d_jdk_52_method_16_code_58) (by decide) (by decide) ?_
    rw [e104]
    exact ⟨b101, k101, rfl, N104, XE105, (Nat.le_of_eq g101.symm), Or.inl ⟨hs104, V104⟩⟩
  · have hjj : j104 = 0 ∨ j104 = 1 ∨ j104 = 2 ∨ j104 = 3 := by omega
    rcases hjj with rfl | rfl | rfl | rfl
    · refine own_st (S' := T104.setTop (mkF m 12 #[.val (.ref b0), .val (.int (0 : Int32)), .val (.int (4 : Int32)), .val (.ref b101), .unset, .unset] [(.int (0 : Int32))])) st104 ?_
      refine own_st (S' := T104.setTop (mkF m 20 #[.val (.ref b0), .val (.int (0 : Int32)), .val (.int (4 : Int32)), .val (.ref b101), .val (.int (0 : Int32)), .unset] [])) (fun _ k => XS.istore X104.here hx rfl (hb hby own_d_jdk_52_method_16_code_12) rfl (l' := #[.val (.ref b0), .val (.int (0 : Int32)), .val (.int (4 : Int32)), .val (.ref b101), .val (.int (0 : Int32)), .unset]) rfl (XS.iload X104.here hx rfl (hb hby own_d_jdk_52_method_16_code_14) rfl (XS.iloadN X104.here hx rfl (hb hby own_d_jdk_52_method_16_code_16) rfl (XS.icmpNo X104.here hx rfl (hb hby own_d_jdk_52_method_16_code_17) rfl (by decide) k)))) ?_
      refine own_st (S' := T104.setTop (mkF m 23 #[.val (.ref b0), .val (.int (0 : Int32)), .val (.int (4 : Int32)), .val (.ref b101), .val (.int (0 : Int32)), .unset] [(.int (4 : Int32)), (.int (0 : Int32)), (.ref b0)])) (fun _ k => XS.aloadN X104.here hx rfl (hb hby own_d_jdk_52_method_16_code_20) rfl rfl (XS.iloadN X104.here hx rfl (hb hby own_d_jdk_52_method_16_code_21) rfl (XS.iloadN X104.here hx rfl (hb hby own_d_jdk_52_method_16_code_22) rfl k))) ?_
      have V106 : Arv Z h104 b0 kc .char (4 : Int32) [(.int c0), (.int c1), (.int c2), (.int c3)] (.int (0 : Int32)) := (V102.keep K104 (ninS (Nat.ne_of_lt (Nat.lt_of_lt_of_le V1.lt (Nat.le_of_eq g101.symm))) nin0))
      have XO107 : Old Z n0 h104 := (XO103.keep K104 (allS (Nat.le_trans Z0 (Nat.le_of_eq g101.symm)) all0))
      obtain ⟨_, _, ⟨T108, L108, k108, n108⟩, -, X108, ⟨Lc108, hQ108, l108, y108, z108⟩, st108⟩ := Jvm.LawKit.callS X104 hx (y := (⟨"java/lang/StringUTF16", "toBytes", "([CII)[B"⟩ : MethodName)) hown (mvT hZ (hw _ own_w76)) (mvT hZ (hw _ own_w77)) (mvT hZ (hw _ own_w22)) (mvT hZ (hw _ own_w78)) (by decide) (backOf (W := 0) (own_rm_tob4 l Z a0 hw G1 S1 P1 G3 S3 P3 S4 S5 S6 [] b0 kc c0 c1 c2 c3 h104 n0 (Nat.le_trans Z0 (Nat.le_trans E101.1 K104.1)) XO107 V106) hZ (hw _ own_w78) (hw _ own_w22) (by decide) (by decide)) (g := (mkF m 23 #[.val (.ref b0), .val (.int (0 : Int32)), .val (.int (4 : Int32)), .val (.ref b101), .val (.int (0 : Int32)), .unset] [(.int (4 : Int32)), (.int (0 : Int32)), (.ref b0)])) rfl (by rw [hml]; rfl) (argsL := [(.ref b0), (.int (0 : Int32)), (.int (4 : Int32))]) (rest := []) (lenOf own_pd10 rfl) rfl (by show 2 * 0 + _ ≤ _; exact Nat.le_of_eq rfl) (hb hby own_d_jdk_52_method_16_code_23) (fun _ _ => ⟨rfl, e104, (by decide : 1 + 1 ≤ _), (by decide : 4 + 8 ≤ _)⟩)
      dsimp only [Pt.U, Pt.locs, Pt.cells, Pt.slots] at X108 l108 y108 z108 st108 hQ108
      subst l108 y108 z108
      obtain ⟨r108, kr108, rfl, M108, E108, g108, V108⟩ := hQ108
      have N108 := Fr.app N104 M108
      obtain ⟨h108, e108⟩ : ∃ z, T108.heap = z := ⟨_, rfl⟩
      rw [e108] at E108 V108
      refine own_st (S' := T108.setTop (mkF m 26 #[.val (.ref b0), .val (.int (0 : Int32)), .val (.int (4 : Int32)), .val (.ref b101), .val (.int (0 : Int32)), .unset] [(.ref r108)])) st108 ?_
      refine own_st (S' := T108.setTop (mkF m 32 #[.val (.ref b0), .val (.int (0 : Int32)), .val (.int (4 : Int32)), .val (.ref b101), .val (.int (0 : Int32)), .val (.ref r108)] [(.int (0 : Int32)), (.ref r108)])) (fun _ k => XS.astore X108.here hx rfl (hb hby own_d_jdk_52_method_16_code_26) rfl rfl (l' := #[.val (.ref b0), .val (.int (0 : Int32)), .val (.int (4 : Int32)), .val (.ref b101), .val (.int (0 : Int32)), .val (.ref r108)]) rfl (XS.aload X108.here hx rfl (hb hby own_d_jdk_52_method_16_code_28) rfl rfl (XS.iload X108.here hx rfl (hb hby own_d_jdk_52_method_16_code_30) rfl k))) ?_
      have XO109 : Old Z n0 h108 := (XO107.ext E108)
      obtain ⟨_, _, ⟨T110, L110, k110, n110⟩, -, X110, ⟨Lc110, hQ110, l110, y110, z110⟩, st110⟩ := Jvm.LawKit.callS X108 hx (y := (⟨"java/lang/StringUTF16", "getChar", "([BI)C"⟩ : MethodName)) hown (mvT hZ (hw _ own_w92)) (mvT hZ (hw _ own_w93)) (mvT hZ (hw _ own_w22)) (mvT hZ (hw _ own_w94)) (by decide) (backOf (W := 0) (own_rm_getc l Z a0 hw G1 S1 P1 G3 S3 P3 S4 S5 S6 [] r108 (0 : Int32) (0 : Int32) (8 : Int32) (StrChars.lo8 c0) (StrChars.hi8 c0) kr108 _ h108 n0 (Nat.le_trans Z0 (Nat.le_trans (Nat.le_trans E101.1 K104.1) E108.1)) XO109 V108 (by decide) ⟨by decide, by decide⟩ ⟨by decide, by decide⟩ rfl rfl) hZ (hw _ own_w94) (hw _ own_w22) (by decide) (by decide)) (g := (mkF m 32 #[.val (.ref b0), .val (.int (0 : Int32)), .val (.int (4 : Int32)), .val (.ref b101), .val (.int (0 : Int32)), .val (.ref r108)] [(.int (0 : Int32)), (.ref r108)])) rfl (by rw [hml]; rfl) (argsL := [(.ref r108), (.int (0 : Int32))]) (rest := []) (lenOf own_pd4 rfl) rfl (by show 2 * 0 + _ ≤ _; exact Nat.le_of_eq rfl) (hb hby own_d_jdk_52_method_16_code_32) (fun _ _ => ⟨rfl, e108, (by decide : 2 + 0 ≤ _), (by decide : 12 + 0 ≤ _)⟩)
      dsimp only [Pt.U, Pt.locs, Pt.cells, Pt.slots] at X110 l110 y110 z110 st110 hQ110
      subst l110 y110 z110
      obtain ⟨rfl, M110, e110⟩ := hQ110
      have N110 := Fr.app N108 M110
      refine own_st (S' := T110.setTop (mkF m 35 #[.val (.ref b0), .val (.int (0 : Int32)), .val (.int (4 : Int32)), .val (.ref b101), .val (.int (0 : Int32)), .val (.ref r108)] [(.int (StrChars.pairCh (StrChars.lo8 c0) (StrChars.hi8 c0)))])) st110 ?_
      rw [StrChars.pair_says hp0.1 hp0.2]
      refine own_st (S' := T110.setTop (mkF m 56 #[.val (.ref b0), .val (.int (0 : Int32)), .val (.int (4 : Int32)), .val (.ref b101), .val (.int (0 : Int32)), .val (.ref r108)] [(.ref r108)])) (fun _ k => XS.sipush X110.here hx rfl (hb hby own_d_jdk_52_method_16_code_35) (XS.icmpYes X110.here hx rfl (pc0 := 38) (pc' := 54) rfl (hb hby own_d_jdk_52_method_16_code_38) rfl (tlt hb104).2.2.1 (by decide) (by decide) (XS.aload X110.here hx rfl (hb hby own_d_jdk_52_method_16_code_54) rfl rfl k))) ?_
      have XE111 : Ext h0 h108 := (own_xt (own_xk E101 K104 (allS (Nat.le_of_eq g101.symm) all0)) E108)
      refine own_ret X110 hx hret hlk rfl (Or.inr (Or.inr (Or.inr (Or.inr ⟨rfl, rfl, rfl⟩)))) (hb hby own_d_jdk_52_method_16_code_56) (by decide) (by decide) ?_
      rw [e110]
      exact ⟨r108, kr108, rfl, N110, XE111, (Nat.le_trans (Nat.le_trans E101.1 K104.1) g108), Or.inr ⟨Or.inl hb104, V108⟩⟩
    · refine own_st (S' := T104.setTop (mkF m 12 #[.val (.ref b0), .val (.int (0 : Int32)), .val (.int (4 : Int32)), .val (.ref b101), .unset, .unset] [(.int (1 : Int32))])) st104 ?_
      refine own_st (S' := T104.setTop (mkF m 20 #[.val (.ref b0), .val (.int (0 : Int32)), .val (.int (4 : Int32)), .val (.ref b101), .val (.int (1 : Int32)), .unset] [])) (fun _ k => XS.istore X104.here hx rfl (hb hby own_d_jdk_52_method_16_code_12) rfl (l' := #[.val (.ref b0), .val (.int (0 : Int32)), .val (.int (4 : Int32)), .val (.ref b101), .val (.int (1 : Int32)), .unset]) rfl (XS.iload X104.here hx rfl (hb hby own_d_jdk_52_method_16_code_14) rfl (XS.iloadN X104.here hx rfl (hb hby own_d_jdk_52_method_16_code_16) rfl (XS.icmpNo X104.here hx rfl (hb hby own_d_jdk_52_method_16_code_17) rfl (by decide) k)))) ?_
      refine own_st (S' := T104.setTop (mkF m 23 #[.val (.ref b0), .val (.int (0 : Int32)), .val (.int (4 : Int32)), .val (.ref b101), .val (.int (1 : Int32)), .unset] [(.int (4 : Int32)), (.int (0 : Int32)), (.ref b0)])) (fun _ k => XS.aloadN X104.here hx rfl (hb hby own_d_jdk_52_method_16_code_20) rfl rfl (XS.iloadN X104.here hx rfl (hb hby own_d_jdk_52_method_16_code_21) rfl (XS.iloadN X104.here hx rfl (hb hby own_d_jdk_52_method_16_code_22) rfl k))) ?_
      have V112 : Arv Z h104 b0 kc .char (4 : Int32) [(.int c0), (.int c1), (.int c2), (.int c3)] (.int (0 : Int32)) := (V102.keep K104 (ninS (Nat.ne_of_lt (Nat.lt_of_lt_of_le V1.lt (Nat.le_of_eq g101.symm))) nin0))
      have XO113 : Old Z n0 h104 := (XO103.keep K104 (allS (Nat.le_trans Z0 (Nat.le_of_eq g101.symm)) all0))
      obtain ⟨_, _, ⟨T114, L114, k114, n114⟩, -, X114, ⟨Lc114, hQ114, l114, y114, z114⟩, st114⟩ := Jvm.LawKit.callS X104 hx (y := (⟨"java/lang/StringUTF16", "toBytes", "([CII)[B"⟩ : MethodName)) hown (mvT hZ (hw _ own_w76)) (mvT hZ (hw _ own_w77)) (mvT hZ (hw _ own_w22)) (mvT hZ (hw _ own_w78)) (by decide) (backOf (W := 0) (own_rm_tob4 l Z a0 hw G1 S1 P1 G3 S3 P3 S4 S5 S6 [] b0 kc c0 c1 c2 c3 h104 n0 (Nat.le_trans Z0 (Nat.le_trans E101.1 K104.1)) XO113 V112) hZ (hw _ own_w78) (hw _ own_w22) (by decide) (by decide)) (g := (mkF m 23 #[.val (.ref b0), .val (.int (0 : Int32)), .val (.int (4 : Int32)), .val (.ref b101), .val (.int (1 : Int32)), .unset] [(.int (4 : Int32)), (.int (0 : Int32)), (.ref b0)])) rfl (by rw [hml]; rfl) (argsL := [(.ref b0), (.int (0 : Int32)), (.int (4 : Int32))]) (rest := []) (lenOf own_pd10 rfl) rfl (by show 2 * 0 + _ ≤ _; exact Nat.le_of_eq rfl) (hb hby own_d_jdk_52_method_16_code_23) (fun _ _ => ⟨rfl, e104, (by decide : 1 + 1 ≤ _), (by decide : 4 + 8 ≤ _)⟩)
      dsimp only [Pt.U, Pt.locs, Pt.cells, Pt.slots] at X114 l114 y114 z114 st114 hQ114
      subst l114 y114 z114
      obtain ⟨r114, kr114, rfl, M114, E114, g114, V114⟩ := hQ114
      have N114 := Fr.app N104 M114
      obtain ⟨h114, e114⟩ : ∃ z, T114.heap = z := ⟨_, rfl⟩
      rw [e114] at E114 V114
      refine own_st (S' := T114.setTop (mkF m 26 #[.val (.ref b0), .val (.int (0 : Int32)), .val (.int (4 : Int32)), .val (.ref b101), .val (.int (1 : Int32)), .unset] [(.ref r114)])) st114 ?_
      refine own_st (S' := T114.setTop (mkF m 32 #[.val (.ref b0), .val (.int (0 : Int32)), .val (.int (4 : Int32)), .val (.ref b101), .val (.int (1 : Int32)), .val (.ref r114)] [(.int (1 : Int32)), (.ref r114)])) (fun _ k => XS.astore X114.here hx rfl (hb hby own_d_jdk_52_method_16_code_26) rfl rfl (l' := #[.val (.ref b0), .val (.int (0 : Int32)), .val (.int (4 : Int32)), .val (.ref b101), .val (.int (1 : Int32)), .val (.ref r114)]) rfl (XS.aload X114.here hx rfl (hb hby own_d_jdk_52_method_16_code_28) rfl rfl (XS.iload X114.here hx rfl (hb hby own_d_jdk_52_method_16_code_30) rfl k))) ?_
      have XO115 : Old Z n0 h114 := (XO113.ext E114)
      obtain ⟨_, _, ⟨T116, L116, k116, n116⟩, -, X116, ⟨Lc116, hQ116, l116, y116, z116⟩, st116⟩ := Jvm.LawKit.callS X114 hx (y := (⟨"java/lang/StringUTF16", "getChar", "([BI)C"⟩ : MethodName)) hown (mvT hZ (hw _ own_w92)) (mvT hZ (hw _ own_w93)) (mvT hZ (hw _ own_w22)) (mvT hZ (hw _ own_w94)) (by decide) (backOf (W := 0) (own_rm_getc l Z a0 hw G1 S1 P1 G3 S3 P3 S4 S5 S6 [] r114 (1 : Int32) (2 : Int32) (8 : Int32) (StrChars.lo8 c1) (StrChars.hi8 c1) kr114 _ h114 n0 (Nat.le_trans Z0 (Nat.le_trans (Nat.le_trans E101.1 K104.1) E114.1)) XO115 V114 (by decide) ⟨by decide, by decide⟩ ⟨by decide, by decide⟩ rfl rfl) hZ (hw _ own_w94) (hw _ own_w22) (by decide) (by decide)) (g := (mkF m 32 #[.val (.ref b0), .val (.int (0 : Int32)), .val (.int (4 : Int32)), .val (.ref b101), .val (.int (1 : Int32)), .val (.ref r114)] [(.int (1 : Int32)), (.ref r114)])) rfl (by rw [hml]; rfl) (argsL := [(.ref r114), (.int (1 : Int32))]) (rest := []) (lenOf own_pd4 rfl) rfl (by show 2 * 0 + _ ≤ _; exact Nat.le_of_eq rfl) (hb hby own_d_jdk_52_method_16_code_32) (fun _ _ => ⟨rfl, e114, (by decide : 2 + 0 ≤ _), (by decide : 12 + 0 ≤ _)⟩)
      dsimp only [Pt.U, Pt.locs, Pt.cells, Pt.slots] at X116 l116 y116 z116 st116 hQ116
      subst l116 y116 z116
      obtain ⟨rfl, M116, e116⟩ := hQ116
      have N116 := Fr.app N114 M116
      refine own_st (S' := T116.setTop (mkF m 35 #[.val (.ref b0), .val (.int (0 : Int32)), .val (.int (4 : Int32)), .val (.ref b101), .val (.int (1 : Int32)), .val (.ref r114)] [(.int (StrChars.pairCh (StrChars.lo8 c1) (StrChars.hi8 c1)))])) st116 ?_
      rw [StrChars.pair_says hp1.1 hp1.2]
      refine own_st (S' := T116.setTop (mkF m 56 #[.val (.ref b0), .val (.int (0 : Int32)), .val (.int (4 : Int32)), .val (.ref b101), .val (.int (1 : Int32)), .val (.ref r114)] [(.ref r114)])) (fun _ k => XS.sipush X116.here hx rfl (hb hby own_d_jdk_52_method_16_code_35) (XS.icmpYes X116.here hx rfl (pc0 := 38) (pc' := 54) rfl (hb hby own_d_jdk_52_method_16_code_38) rfl (tlt hb104).2.2.1 (by decide) (by decide) (XS.aload X116.here hx rfl (hb hby own_d_jdk_52_method_16_code_54) rfl rfl k))) ?_
      have XE117 : Ext h0 h114 := (own_xt (own_xk E101 K104 (allS (Nat.le_of_eq g101.symm) all0)) E114)
      refine own_ret X116 hx hret hlk rfl (Or.inr (Or.inr (Or.inr (Or.inr ⟨rfl, rfl, rfl⟩)))) (hb hby own_d_jdk_52_method_16_code_56) (by decide) (by decide) ?_
      rw [e116]
      exact ⟨r114, kr114, rfl, N116, XE117, (Nat.le_trans (Nat.le_trans E101.1 K104.1) g114), Or.inr ⟨Or.inr (Or.inl hb104), V114⟩⟩
    · refine own_st (S' := T104.setTop (mkF m 12 #[.val (.ref b0), .val (.int (0 : Int32)), .val (.int (4 : Int32)), .val (.ref b101), .unset, .unset] [(.int (2 : Int32))])) st104 ?_
      refine own_st (S' := T104.setTop (mkF m 20 #[.val (.ref b0), .val (.int (0 : Int32)), .val (.int (4 : Int32)), .val (.ref b101), .val (.int (2 : Int32)), .unset] [])) (fun _ k => XS.istore X104.here hx rfl (hb hby own_d_jdk_52_method_16_code_12) rfl (l' := #[.val (.ref b0), .val (.int (0 : Int32)), .val (.int (4 : Int32)), .val (.ref b101), .val (.int (2 : Int32)), .unset]) rfl (XS.iload X104.here hx rfl (hb hby own_d_jdk_52_method_16_code_14) rfl (XS.iloadN X104.here hx rfl (hb hby own_d_jdk_52_method_16_code_16) rfl (XS.icmpNo X104.here hx rfl (hb hby own_d_jdk_52_method_16_code_17) rfl (by decide) k)))) ?_
      refine own_st (S' := T104.setTop (mkF m 23 #[.val (.ref b0), .val (.int (0 : Int32)), .val (.int (4 : Int32)), .val (.ref b101), .val (.int (2 : Int32)), .unset] [(.int (4 : Int32)), (.int (0 : Int32)), (.ref b0)])) (fun _ k => XS.aloadN X104.here hx rfl (hb hby own_d_jdk_52_method_16_code_20) rfl rfl (XS.iloadN X104.here hx rfl (hb hby own_d_jdk_52_method_16_code_21) rfl (XS.iloadN X104.here hx rfl (hb hby own_d_jdk_52_method_16_code_22) rfl k))) ?_
      have V118 : Arv Z h104 b0 kc .char (4 : Int32) [(.int c0), (.int c1), (.int c2), (.int c3)] (.int (0 : Int32)) := (V102.keep K104 (ninS (Nat.ne_of_lt (Nat.lt_of_lt_of_le V1.lt (Nat.le_of_eq g101.symm))) nin0))
      have XO119 : Old Z n0 h104 := (XO103.keep K104 (allS (Nat.le_trans Z0 (Nat.le_of_eq g101.symm)) all0))
      obtain ⟨_, _, ⟨T120, L120, k120, n120⟩, -, X120, ⟨Lc120, hQ120, l120, y120, z120⟩, st120⟩ := Jvm.LawKit.callS X104 hx (y := (⟨"java/lang/StringUTF16", "toBytes", "([CII)[B"⟩ : MethodName)) hown (mvT hZ (hw _ own_w76)) (mvT hZ (hw _ own_w77)) (mvT hZ (hw _ own_w22)) (mvT hZ (hw _ own_w78)) (by decide) (backOf (W := 0) (own_rm_tob4 l Z a0 hw G1 S1 P1 G3 S3 P3 S4 S5 S6 [] b0 kc c0 c1 c2 c3 h104 n0 (Nat.le_trans Z0 (Nat.le_trans E101.1 K104.1)) XO119 V118) hZ (hw _ own_w78) (hw _ own_w22) (by decide) (by decide)) (g := (mkF m 23 #[.val (.ref b0), .val (.int (0 : Int32)), .val (.int (4 : Int32)), .val (.ref b101), .val (.int (2 : Int32)), .unset] [(.int (4 : Int32)), (.int (0 : Int32)), (.ref b0)])) rfl (by rw [hml]; rfl) (argsL := [(.ref b0), (.int (0 : Int32)), (.int (4 : Int32))]) (rest := []) (lenOf own_pd10 rfl) rfl (by show 2 * 0 + _ ≤ _; exact Nat.le_of_eq rfl) (hb hby own_d_jdk_52_method_16_code_23) (fun _ _ => ⟨rfl, e104, (by decide : 1 + 1 ≤ _), (by decide : 4 + 8 ≤ _)⟩)
      dsimp only [Pt.U, Pt.locs, Pt.cells, Pt.slots] at X120 l120 y120 z120 st120 hQ120
      subst l120 y120 z120
      obtain ⟨r120, kr120, rfl, M120, E120, g120, V120⟩ := hQ120
      have N120 := Fr.app N104 M120
      obtain ⟨h120, e120⟩ : ∃ z, T120.heap = z := ⟨_, rfl⟩
      rw [e120] at E120 V120
      refine own_st (S' := T120.setTop (mkF m 26 #[.val (.ref b0), .val (.int (0 : Int32)), .val (.int (4 : Int32)), .val (.ref b101), .val (.int (2 : Int32)), .unset] [(.ref r120)])) st120 ?_
      refine own_st (S' := T120.setTop (mkF m 32 #[.val (.ref b0), .val (.int (0 : Int32)), .val (.int (4 : Int32)), .val (.ref b101), .val (.int (2 : Int32)), .val (.ref r120)] [(.int (2 : Int32)), (.ref r120)])) (fun _ k => XS.astore X120.here hx rfl (hb hby own_d_jdk_52_method_16_code_26) rfl rfl (l' := #[.val (.ref b0), .val (.int (0 : Int32)), .val (.int (4 : Int32)), .val (.ref b101), .val (.int (2 : Int32)), .val (.ref r120)]) rfl (XS.aload X120.here hx rfl (hb hby own_d_jdk_52_method_16_code_28) rfl rfl (XS.iload X120.here hx rfl (hb hby own_d_jdk_52_method_16_code_30) rfl k))) ?_
      have XO121 : Old Z n0 h120 := (XO119.ext E120)
      obtain ⟨_, _, ⟨T122, L122, k122, n122⟩, -, X122, ⟨Lc122, hQ122, l122, y122, z122⟩, st122⟩ := Jvm.LawKit.callS X120 hx (y := (⟨"java/lang/StringUTF16", "getChar", "([BI)C"⟩ : MethodName)) hown (mvT hZ (hw _ own_w92)) (mvT hZ (hw _ own_w93)) (mvT hZ (hw _ own_w22)) (mvT hZ (hw _ own_w94)) (by decide) (backOf (W := 0) (own_rm_getc l Z a0 hw G1 S1 P1 G3 S3 P3 S4 S5 S6 [] r120 (2 : Int32) (4 : Int32) (8 : Int32) (StrChars.lo8 c2) (StrChars.hi8 c2) kr120 _ h120 n0 (Nat.le_trans Z0 (Nat.le_trans (Nat.le_trans E101.1 K104.1) E120.1)) XO121 V120 (by decide) ⟨by decide, by decide⟩ ⟨by decide, by decide⟩ rfl rfl) hZ (hw _ own_w94) (hw _ own_w22) (by decide) (by decide)) (g := (mkF m 32 #[.val (.ref b0), .val (.int (0 : Int32)), .val (.int (4 : Int32)), .val (.ref b101), .val (.int (2 : Int32)), .val (.ref r120)] [(.int (2 : Int32)), (.ref r120)])) rfl (by rw [hml]; rfl) (argsL := [(.ref r120), (.int (2 : Int32))]) (rest := []) (lenOf own_pd4 rfl) rfl (by show 2 * 0 + _ ≤ _; exact Nat.le_of_eq rfl) (hb hby own_d_jdk_52_method_16_code_32) (fun _ _ => ⟨rfl, e120, (by decide : 2 + 0 ≤ _), (by decide : 12 + 0 ≤ _)⟩)
      dsimp only [Pt.U, Pt.locs, Pt.cells, Pt.slots] at X122 l122 y122 z122 st122 hQ122
      subst l122 y122 z122
      obtain ⟨rfl, M122, e122⟩ := hQ122
      have N122 := Fr.app N120 M122
      refine own_st (S' := T122.setTop (mkF m 35 #[.val (.ref b0), .val (.int (0 : Int32)), .val (.int (4 : Int32)), .val (.ref b101), .val (.int (2 : Int32)), .val (.ref r120)] [(.int (StrChars.pairCh (StrChars.lo8 c2) (StrChars.hi8 c2)))])) st122 ?_
      rw [StrChars.pair_says hp2.1 hp2.2]
      refine own_st (S' := T122.setTop (mkF m 56 #[.val (.ref b0), .val (.int (0 : Int32)), .val (.int (4 : Int32)), .val (.ref b101), .val (.int (2 : Int32)), .val (.ref r120)] [(.ref r120)])) (fun _ k => XS.sipush X122.here hx rfl (hb hby own_d_jdk_52_method_16_code_35) (XS.icmpYes X122.here hx rfl (pc0 := 38) (pc' := 54) rfl (hb hby own_d_jdk_52_method_16_code_38) rfl (tlt hb104).2.2.1 (by decide) (by decide) (XS.aload X122.here hx rfl (hb hby own_d_jdk_52_method_16_code_54) rfl rfl k))) ?_
      have XE123 : Ext h0 h120 := (own_xt (own_xk E101 K104 (allS (Nat.le_of_eq g101.symm) all0)) E120)
      refine own_ret X122 hx hret hlk rfl (Or.inr (Or.inr (Or.inr (Or.inr ⟨rfl, rfl, rfl⟩)))) (hb hby own_d_jdk_52_method_16_code_56) (by decide) (by decide) ?_
      rw [e122]
      exact ⟨r120, kr120, rfl, N122, XE123, (Nat.le_trans (Nat.le_trans E101.1 K104.1) g120), Or.inr ⟨Or.inr (Or.inr (Or.inl hb104)), V120⟩⟩
    · refine own_st (S' := T104.setTop (mkF m 12 #[.val (.ref b0), .val (.int (0 : Int32)), .val (.int (4 : Int32)), .val (.ref b101), .unset, .unset] [(.int (3 : Int32))])) st104 ?_
      refine own_st (S' := T104.setTop (mkF m 20 #[.val (.ref b0), .val (.int (0 : Int32)), .val (.int (4 : Int32)), .val (.ref b101), .val (.int (3 : Int32)), .unset] [])) (fun _ k => XS.istore X104.here hx rfl (hb hby own_d_jdk_52_method_16_code_12) rfl (l' := #[.val (.ref b0), .val (.int (0 : Int32)), .val (.int (4 : Int32)), .val (.ref b101), .val (.int (3 : Int32)), .unset]) rfl (XS.iload X104.here hx rfl (hb hby own_d_jdk_52_method_16_code_14) rfl (XS.iloadN X104.here hx rfl (hb hby own_d_jdk_52_method_16_code_16) rfl (XS.icmpNo X104.here hx rfl (hb hby own_d_jdk_52_method_16_code_17) rfl (by decide) k)))) ?_
      refine own_st (S' := T104.setTop (mkF m 23 #[.val (.ref b0), .val (.int (0 : Int32)), .val (.int (4 : Int32)), .val (.ref b101), .val (.int (3 : Int32)), .unset] [(.int (4 : Int32)), (.int (0 : Int32)), (.ref b0)])) (fun _ k => XS.aloadN X104.here hx rfl (hb hby own_d_jdk_52_method_16_code_20) rfl rfl (XS.iloadN X104.here hx rfl (hb hby own_d_jdk_52_method_16_code_21) rfl (XS.iloadN X104.here hx rfl (hb hby own_d_jdk_52_method_16_code_22) rfl k))) ?_
      have V124 : Arv Z h104 b0 kc .char (4 : Int32) [(.int c0), (.int c1), (.int c2), (.int c3)] (.int (0 : Int32)) := (V102.keep K104 (ninS (Nat.ne_of_lt (Nat.lt_of_lt_of_le V1.lt (Nat.le_of_eq g101.symm))) nin0))
      have XO125 : Old Z n0 h104 := (XO103.keep K104 (allS (Nat.le_trans Z0 (Nat.le_of_eq g101.symm)) all0))
      obtain ⟨_, _, ⟨T126, L126, k126, n126⟩, -, X126, ⟨Lc126, hQ126, l126, y126, z126⟩, st126⟩ := Jvm.LawKit.callS X104 hx (y := (⟨"java/lang/StringUTF16", "toBytes", "([CII)[B"⟩ : MethodName)) hown (mvT hZ (hw _ own_w76)) (mvT hZ (hw _ own_w77)) (mvT hZ (hw _ own_w22)) (mvT hZ (hw _ own_w78)) (by decide) (backOf (W := 0) (own_rm_tob4 l Z a0 hw G1 S1 P1 G3 S3 P3 S4 S5 S6 [] b0 kc c0 c1 c2 c3 h104 n0 (Nat.le_trans Z0 (Nat.le_trans E101.1 K104.1)) XO125 V124) hZ (hw _ own_w78) (hw _ own_w22) (by decide) (by decide)) (g := (mkF m 23 #[.val (.ref b0), .val (.int (0 : Int32)), .val (.int (4 : Int32)), .val (.ref b101), .val (.int (3 : Int32)), .unset] [(.int (4 : Int32)), (.int (0 : Int32)), (.ref b0)])) rfl (by rw [hml]; rfl) (argsL := [(.ref b0), (.int (0 : Int32)), (.int (4 : Int32))]) (rest := []) (lenOf own_pd10 rfl) rfl (by show 2 * 0 + _ ≤ _; exact Nat.le_of_eq rfl) (hb hby own_d_jdk_52_method_16_code_23) (fun _ _ => ⟨rfl, e104, (by decide : 1 + 1 ≤ _), (by decide : 4 + 8 ≤ _)⟩)
      dsimp only [Pt.U, Pt.locs, Pt.cells, Pt.slots] at X126 l126 y126 z126 st126 hQ126
      subst l126 y126 z126
      obtain ⟨r126, kr126, rfl, M126, E126, g126, V126⟩ := hQ126
      have N126 := Fr.app N104 M126
      obtain ⟨h126, e126⟩ : ∃ z, T126.heap = z := ⟨_, rfl⟩
      rw [e126] at E126 V126
      refine own_st (S' := T126.setTop (mkF m 26 #[.val (.ref b0), .val (.int (0 : Int32)), .val (.int (4 : Int32)), .val (.ref b101), .val (.int (3 : Int32)), .unset] [(.ref r126)])) st126 ?_
      refine own_st (S' := T126.setTop (mkF m 32 #[.val (.ref b0), .val (.int (0 : Int32)), .val (.int (4 : Int32)), .val (.ref b101), .val (.int (3 : Int32)), .val (.ref r126)] [(.int (3 : Int32)), (.ref r126)])) (fun _ k => XS.astore X126.here hx rfl (hb hby own_d_jdk_52_method_16_code_26) rfl rfl (l' := #[.val (.ref b0), .val (.int (0 : Int32)), .val (.int (4 : Int32)), .val (.ref b101), .val (.int (3 : Int32)), .val (.ref r126)]) rfl (XS.aload X126.here hx rfl (hb hby own_d_jdk_52_method_16_code_28) rfl rfl (XS.iload X126.here hx rfl (hb hby own_d_jdk_52_method_16_code_30) rfl k))) ?_
      have XO127 : Old Z n0 h126 := (XO125.ext E126)
      obtain ⟨_, _, ⟨T128, L128, k128, n128⟩, -, X128, ⟨Lc128, hQ128, l128, y128, z128⟩, st128⟩ := Jvm.LawKit.callS X126 hx (y := (⟨"java/lang/StringUTF16", "getChar", "([BI)C"⟩ : MethodName)) hown (mvT hZ (hw _ own_w92)) (mvT hZ (hw _ own_w93)) (mvT hZ (hw _ own_w22)) (mvT hZ (hw _ own_w94)) (by decide) (backOf (W := 0) (own_rm_getc l Z a0 hw G1 S1 P1 G3 S3 P3 S4 S5 S6 [] r126 (3 : Int32) (6 : Int32) (8 : Int32) (StrChars.lo8 c3) (StrChars.hi8 c3) kr126 _ h126 n0 (Nat.le_trans Z0 (Nat.le_trans (Nat.le_trans E101.1 K104.1) E126.1)) XO127 V126 (by decide) ⟨by decide, by decide⟩ ⟨by decide, by decide⟩ rfl rfl) hZ (hw _ own_w94) (hw _ own_w22) (by decide) (by decide)) (g := (mkF m 32 #[.val (.ref b0), .val (.int (0 : Int32)), .val (.int (4 : Int32)), .val (.ref b101), .val (.int (3 : Int32)), .val (.ref r126)] [(.int (3 : Int32)), (.ref r126)])) rfl (by rw [hml]; rfl) (argsL := [(.ref r126), (.int (3 : Int32))]) (rest := []) (lenOf own_pd4 rfl) rfl (by show 2 * 0 + _ ≤ _; exact Nat.le_of_eq rfl) (hb hby own_d_jdk_52_method_16_code_32) (fun _ _ => ⟨rfl, e126, (by decide : 2 + 0 ≤ _), (by decide : 12 + 0 ≤ _)⟩)
      dsimp only [Pt.U, Pt.locs, Pt.cells, Pt.slots] at X128 l128 y128 z128 st128 hQ128
      subst l128 y128 z128
      obtain ⟨rfl, M128, e128⟩ := hQ128
      have N128 := Fr.app N126 M128
      refine own_st (S' := T128.setTop (mkF m 35 #[.val (.ref b0), .val (.int (0 : Int32)), .val (.int (4 : Int32)), .val (.ref b101), .val (.int (3 : Int32)), .val (.ref r126)] [(.int (StrChars.pairCh (StrChars.lo8 c3) (StrChars.hi8 c3)))])) st128 ?_
      rw [StrChars.pair_says hp3.1 hp3.2]
      refine own_st (S' := T128.setTop (mkF m 56 #[.val (.ref b0), .val (.int (0 : Int32)), .val (.int (4 : Int32)), .val (.ref b101), .val (.int (3 : Int32)), .val (.ref r126)] [(.ref r126)])) (fun _ k => XS.sipush X128.here hx rfl (hb hby own_d_jdk_52_method_16_code_35) (XS.icmpYes X128.here hx rfl (pc0 := 38) (pc' := 54) rfl (hb hby own_d_jdk_52_method_16_code_38) rfl (tlt hb104).2.2.1 (by decide) (by decide) (XS.aload X128.here hx rfl (hb hby own_d_jdk_52_method_16_code_54) rfl rfl k))) ?_
      have XE129 : Ext h0 h126 := (own_xt (own_xk E101 K104 (allS (Nat.le_of_eq g101.symm) all0)) E126)
      refine own_ret X128 hx hret hlk rfl (Or.inr (Or.inr (Or.inr (Or.inr ⟨rfl, rfl, rfl⟩)))) (hb hby own_d_jdk_52_method_16_code_56) (by decide) (by decide) ?_
      rw [e128]
      exact ⟨r126, kr126, rfl, N128, XE129, (Nat.le_trans (Nat.le_trans E101.1 K104.1) g126), Or.inr ⟨Or.inr (Or.inr (Or.inr (hb104))), V126⟩⟩
def own_Q_in44 (Z : State) (x0 : Addr) (c0 c1 c2 c3 : Int32) (h0 : Heap) (n0 : Nat) (v : Option Value) (h : Heap) (L : List Loc) : Prop := v = none ∧ Fr n0 L ∧ Keep h0 h [x0] ∧ own_Str Z h x0 [c0, c1, c2, c3]
theorem own_ef_in44 (m : MethodId) (x0 : Addr) (b0 : Addr) : entryFrame m #[(.ref x0), (.ref b0), (.int (0 : Int32)), (.int (4 : Int32)), .null] 6 = mkF m 0 #[.val (.ref x0), .val (.ref b0), .val (.int (0 : Int32)), .val (.int (4 : Int32)), .val .null, .unset] [] := by first | (simp [entryFrame, mkF, argsToLocals, Value.category, maxLocals]; done) | rfl
set_option maxRecDepth 65536 in
set_option maxHeartbeats 40000000 in
theorem own_rm_in44 (l : Launch) (Z : State) (a0 : Array Value) (hw : ∀ d ∈ tables_1, d.before a0 Z = true) (G1 : Int32) (S1 : Sta Z Z.heap "java/lang/String" "COMPACT_STRINGS" "Z" (.int G1)) (P1 : ¬ G1 = 0) (G3 : Value) (S3 : Sta Z Z.heap "jdk/internal/util/Preconditions" "SIOOBE_FORMATTER" "Ljava/util/function/BiFunction;" G3) (P3 : G3.isRef = true) (S4 : Sta Z Z.heap "java/lang/StringUTF16" "$assertionsDisabled" "Z" (.int (1 : Int32))) (S5 : Sta Z Z.heap "java/lang/StringUTF16" "HI_BYTE_SHIFT" "I" (.int (0 : Int32))) (S6 : Sta Z Z.heap "java/lang/StringUTF16" "LO_BYTE_SHIFT" "I" (.int (8 : Int32))) (ws : List Jvm.Cond) (x0 b0 : Addr) (kc : ClassId) (c0 c1 c2 c3 : Int32) (h0 : Heap) (n0 : Nat) (Z0 : n0 ≤ h0.size) (XO : Old Z n0 h0) (g0 : n0 ≤ x0) (E1 : Exa Z h0 x0 "java/lang/String") (F1 : Fld Z h0 x0 "java/lang/String" "value" "[B" .null) (F2 : Fld Z h0 x0 "java/lang/String" "coder" "B" (.int (0 : Int32))) (V1 : Arv Z h0 b0 kc .char (4 : Int32) [.int c0, .int c1, .int c2, .int c3] (.int (0 : Int32))) (hp0 : ¬ c0 < 0 ∧ ¬ (65535 : Int32) < c0) (hp1 : ¬ c1 < 0 ∧ ¬ (65535 : Int32) < c1) (hp2 : ¬ c2 < 0 ∧ ¬ (65535 : Int32) < c2) (hp3 : ¬ c3 < 0 ∧ ¬ (65535 : Int32) < c3) :
    own_Met l Z h0 (⟨"java/lang/String", "<init>", "([CIILjava/lang/Void;)V"⟩ : MethodName) jdk_42_method_149_code 6 (none) ws { frames := 4, cells := 2, slots := 12, locals := 57 } #[(.ref x0), (.ref b0), (.int (0 : Int32)), (.int (4 : Int32)), .null] (own_Q_in44 Z x0 c0 c1 c2 c3 h0 n0) := by
  refine own_enter (plainFor_of_name own_pn1) (fun p e s m below meth c s₁ hx hby hlk hml hown hnm hret hZ X0 e0 => ?_)
  have N0 := Fr.nil n0
  refine own_st (S' := s₁.setTop (mkF m 0 #[.val (.ref x0), .val (.ref b0), .val (.int (0 : Int32)), .val (.int (4 : Int32)), .val .null, .unset] [])) (fun _ k => castTop (own_ef_in44 m x0 b0) k) ?_
  refine own_st (S' := s₁.setTop (mkF m 1 #[.val (.ref x0), .val (.ref b0), .val (.int (0 : Int32)), .val (.int (4 : Int32)), .val .null, .unset] [(.ref x0)])) (fun _ k => XS.aloadN X0.here hx rfl (hb hby own_d_jdk_42_method_149_code_0) rfl rfl k) ?_
  obtain ⟨T101, X101, e101, st101⟩ := initO X0 hx hZ hown (hw _ own_w16) (hw _ own_w17) (hw _ own_w18) e0 (g := (mkF m 1 #[.val (.ref x0), .val (.ref b0), .val (.int (0 : Int32)), .val (.int (4 : Int32)), .val .null, .unset] [(.ref x0)])) rfl (by rw [hml]; rfl) rfl (hb hby own_d_jdk_42_method_149_code_1) (by decide) (W := 0) (by show 2 * 0 + _ ≤ _; exact Nat.le_of_eq rfl) (by decide)
  refine own_st (S' := T101.setTop (mkF m 4 #[.val (.ref x0), .val (.ref b0), .val (.int (0 : Int32)), .val (.int (4 : Int32)), .val .null, .unset] [])) st101 ?_
  refine own_st (S' := T101.setTop (mkF m 27 #[.val (.ref x0), .val (.ref b0), .val (.int (0 : Int32)), .val (.int (4 : Int32)), .val .null, .unset] [])) (fun _ k => XS.iloadN X101.here hx rfl (hb hby own_d_jdk_42_method_149_code_4) rfl (XS.ifYes X101.here hx rfl (pc0 := 5) (pc' := 27) rfl (hb hby own_d_jdk_42_method_149_code_5) rfl (by decide) (by decide) (by decide) k)) ?_
  have S102 : Sta Z h0 "java/lang/String" "COMPACT_STRINGS" "Z" (.int G1) := (S1.ext XO.2)
  obtain ⟨T103, X103, e103, st103⟩ := getS2 X101 hx hZ hown (host := "") (Or.inl (hw _ own_w19)) Via.refl e101 S102 (g := (mkF m 27 #[.val (.ref x0), .val (.ref b0), .val (.int (0 : Int32)), .val (.int (4 : Int32)), .val .null, .unset] [])) rfl (hb hby own_d_jdk_42_method_149_code_27)
  refine own_st (S' := T103.setTop (mkF m 30 #[.val (.ref x0), .val (.ref b0), .val (.int (0 : Int32)), .val (.int (4 : Int32)), .val .null, .unset] [(.int G1)])) st103 ?_
  refine own_st (S' := T103.setTop (mkF m 36 #[.val (.ref x0), .val (.ref b0), .val (.int (0 : Int32)), .val (.int (4 : Int32)), .val .null, .unset] [(.int (4 : Int32)), (.int (0 : Int32)), (.ref b0)])) (fun _ k => XS.ifNo X103.here hx rfl (hb hby own_d_jdk_42_method_149_code_30) rfl ((if0 _ _).trans (feq P1).1) (XS.aloadN X103.here hx rfl (hb hby own_d_jdk_42_method_149_code_33) rfl rfl (XS.iloadN X103.here hx rfl (hb hby own_d_jdk_42_method_149_code_34) rfl (XS.iloadN X103.here hx rfl (hb hby own_d_jdk_42_method_149_code_35) rfl k)))) ?_
  obtain ⟨_, _, ⟨T104, L104, k104, n104⟩, -, X104, ⟨Lc104, hQ104, l104, y104, z104⟩, st104⟩ := Jvm.LawKit.callS X103 hx (y := (⟨"java/lang/StringUTF16", "compress", "([CII)[B"⟩ : MethodName)) hown (mvT hZ (hw _ own_w20)) (mvT hZ (hw _ own_w21)) (mvT hZ (hw _ own_w22)) (mvT hZ (hw _ own_w23)) (by decide) (backOf (W := 0) (own_rm_cm34 l Z a0 hw G1 S1 P1 G3 S3 P3 S4 S5 S6 [] b0 kc c0 c1 c2 c3 h0 n0 (Nat.le_trans Z0 (Nat.le_refl _)) XO V1 hp0 hp1 hp2 hp3) hZ (hw _ own_w23) (hw _ own_w22) (by decide) (by decide)) (g := (mkF m 36 #[.val (.ref x0), .val (.ref b0), .val (.int (0 : Int32)), .val (.int (4 : Int32)), .val .null, .unset] [(.int (4 : Int32)), (.int (0 : Int32)), (.ref b0)])) rfl (by rw [hml]; rfl) (argsL := [(.ref b0), (.int (0 : Int32)), (.int (4 : Int32))]) (rest := []) (lenOf own_pd10 rfl) rfl (by show 2 * 0 + _ ≤ _; exact Nat.le_of_eq rfl) (hb hby own_d_jdk_42_method_149_code_36) (fun _ _ => ⟨rfl, e103, (by decide : 0 + 2 ≤ _), (by decide : 0 + 12 ≤ _)⟩)
  dsimp only [Pt.U, Pt.locs, Pt.cells, Pt.slots] at X104 l104 y104 z104 st104 hQ104
  subst l104 y104 z104
  obtain ⟨r104, kr104, rfl, M104, E104, g104, o104⟩ := hQ104
  have N104 := Fr.app N0 M104
  obtain ⟨h104, e104⟩ : ∃ z, T104.heap = z := ⟨_, rfl⟩
  rw [e104] at E104 o104
  rcases o104 with ⟨hs104, V104⟩ | ⟨hs104, V104⟩
  · refine own_st (S' := T104.setTop (mkF m 39 #[.val (.ref x0), .val (.ref b0), .val (.int (0 : Int32)), .val (.int (4 : Int32)), .val .null, .unset] [(.ref r104)])) st104 ?_
    refine own_st (S' := T104.setTop (mkF m 45 #[.val (.ref x0), .val (.ref b0), .val (.int (0 : Int32)), .val (.int (4 : Int32)), .val .null, .val (.ref r104)] [(.int (4 : Int32)), (.ref r104), (.ref x0)])) (fun _ k => XS.astore X104.here hx rfl (hb hby own_d_jdk_42_method_149_code_39) rfl rfl (l' := #[.val (.ref x0), .val (.ref b0), .val (.int (0 : Int32)), .val (.int (4 : Int32)), .val .null, .val (.ref r104)]) rfl (XS.aloadN X104.here hx rfl (hb hby own_d_jdk_42_method_149_code_41) rfl rfl (XS.aload X104.here hx rfl (hb hby own_d_jdk_42_method_149_code_42) rfl rfl (XS.iloadN X104.here hx rfl (hb hby own_d_jdk_42_method_149_code_44) rfl k)))) ?_
    have XO105 : Old Z n0 h104 := (XO.ext E104)
    obtain ⟨_, _, ⟨T106, L106, k106, n106⟩, -, X106, ⟨Lc106, hQ106, l106, y106, z106⟩, st106⟩ := Jvm.LawKit.callS X104 hx (y := (⟨"java/lang/StringUTF16", "coderFromArrayLen", "([BI)B"⟩ : MethodName)) hown (mvT hZ (hw _ own_w28)) (mvT hZ (hw _ own_w29)) (mvT hZ (hw _ own_w22)) (mvT hZ (hw _ own_w30)) (by decide) (backOf (W := 1) (own_rm_cod44 l Z a0 hw G1 S1 P1 G3 S3 P3 S4 S5 S6 [] r104 kr104 _ h104 n0 (Nat.le_trans Z0 E104.1) XO105 V104) hZ (hw _ own_w30) (hw _ own_w22) (by decide) (by decide)) (g := (mkF m 45 #[.val (.ref x0), .val (.ref b0), .val (.int (0 : Int32)), .val (.int (4 : Int32)), .val .null, .val (.ref r104)] [(.int (4 : Int32)), (.ref r104), (.ref x0)])) rfl (by rw [hml]; rfl) (argsL := [(.ref r104), (.int (4 : Int32))]) (rest := [(.ref x0)]) (lenOf own_pd11 rfl) rfl (by show 2 * 0 + _ ≤ _; exact Nat.le_of_eq rfl) (hb hby own_d_jdk_42_method_149_code_45) (fun _ _ => ⟨rfl, e104, (by decide : 2 + 0 ≤ _), (by decide : 12 + 0 ≤ _)⟩)
    dsimp only [Pt.U, Pt.locs, Pt.cells, Pt.slots] at X106 l106 y106 z106 st106 hQ106
    subst l106 y106 z106
    obtain ⟨rfl, M106, e106⟩ := hQ106
    have N106 := Fr.app N104 M106
    refine own_st (S' := T106.setTop (mkF m 48 #[.val (.ref x0), .val (.ref b0), .val (.int (0 : Int32)), .val (.int (4 : Int32)), .val .null, .val (.ref r104)] [(.int (0 : Int32)), (.ref x0)])) st106 ?_
    have F107 : Fld Z h104 x0 "java/lang/String" "coder" "B" (.int (0 : Int32)) := (F2.ext E104)
    have A108 : Exa Z h104 x0 "java/lang/String" := (E1.ext E104)
    obtain ⟨T109, h109, X109, e109, W109, st109⟩ := putF X106 hx hZ hown (host := "") (Or.inl (hw _ own_w31)) Via.refl e106 F107 A108 (Or.inr ⟨(hw _ own_w32), rfl, hnm⟩) (hw _ own_w7) (ty := .byte) (by decide) rfl rfl (g := (mkF m 48 #[.val (.ref x0), .val (.ref b0), .val (.int (0 : Int32)), .val (.int (4 : Int32)), .val .null, .val (.ref r104)] [(.int (0 : Int32)), (.ref x0)])) rfl rfl (hb hby own_d_jdk_42_method_149_code_48)
    have N109 := Fr.snoc X109 N106 g0
    refine own_st (S' := T109.setTop (mkF m 51 #[.val (.ref x0), .val (.ref b0), .val (.int (0 : Int32)), .val (.int (4 : Int32)), .val .null, .val (.ref r104)] [])) st109 ?_
    refine own_st (S' := T109.setTop (mkF m 54 #[.val (.ref x0), .val (.ref b0), .val (.int (0 : Int32)), .val (.int (4 : Int32)), .val .null, .val (.ref r104)] [(.ref r104), (.ref x0)])) (fun _ k => XS.aloadN X109.here hx rfl (hb hby own_d_jdk_42_method_149_code_51) rfl rfl (XS.aload X109.here hx rfl (hb hby own_d_jdk_42_method_149_code_52) rfl rfl k)) ?_
    have F110 : Fld Z h109 x0 "java/lang/String" "value" "[B" .null := ((F1.ext E104).other W109 (Or.inr (slot_ne (Or.inr (hw _ own_w34)) (Or.inr (hw _ own_w32)) (by decide) (t := (.array .byte)) (t' := .byte) (by decide) (by decide))))
    have A111 : Exa Z h109 x0 "java/lang/String" := (A108.wr W109)
    obtain ⟨T112, h112, X112, e112, W112, st112⟩ := putF X109 hx hZ hown (host := "") (Or.inl (hw _ own_w33)) Via.refl e109 F110 A111 (Or.inr ⟨(hw _ own_w34), rfl, hnm⟩) (hw _ own_w7) (ty := (.array .byte)) (by decide) rfl rfl (g := (mkF m 54 #[.val (.ref x0), .val (.ref b0), .val (.int (0 : Int32)), .val (.int (4 : Int32)), .val .null, .val (.ref r104)] [(.ref r104), (.ref x0)])) rfl rfl (hb hby own_d_jdk_42_method_149_code_54)
    have N112 := Fr.snoc X112 N109 g0
    refine own_st (S' := T112.setTop (mkF m 57 #[.val (.ref x0), .val (.ref b0), .val (.int (0 : Int32)), .val (.int (4 : Int32)), .val .null, .val (.ref r104)] [])) st112 ?_
    have hal : ∀ c ∈ [c0, c1, c2, c3], ¬ c < 0 ∧ ¬ (65535 : Int32) < c := by
      intro c hc
      simp only [List.mem_cons, List.not_mem_nil, or_false] at hc
      rcases hc with rfl | rfl | rfl | rfl
      · exact hp0
      · exact hp1
      · exact hp2
      · exact hp3
    have hcod : StrChars.Road.CodA [c0, c1, c2, c3] 0 (4 : Int32) [.int (StrChars.lo8 c0), .int (StrChars.lo8 c1), .int (StrChars.lo8 c2), .int (StrChars.lo8 c3)] := Or.inl ⟨rfl, rfl, rfl, by
      intro c hc
      simp only [List.mem_cons, List.not_mem_nil, or_false] at hc
      rcases hc with rfl | rfl | rfl | rfl
      · exact hs104.1
      · exact hs104.2.1
      · exact hs104.2.2.1
      · exact hs104.2.2.2⟩
    have A113 : Exa Z h112 x0 "java/lang/String" := (A111.wr W112)
    have F114 : Fld Z h112 x0 "java/lang/String" "coder" "B" (.int (0 : Int32)) := ((F107.same W109).other W112 (Or.inr (slot_ne (Or.inr (hw _ own_w32)) (Or.inr (hw _ own_w34)) (by decide) (t := .byte) (t' := (.array .byte)) (by decide) (by decide))))
    have V115 : Arv Z h112 r104 kr104 .byte (4 : Int32) [(.int (StrChars.lo8 c0)), (.int (StrChars.lo8 c1)), (.int (StrChars.lo8 c2)), (.int (StrChars.lo8 c3))] (.int (0 : Int32)) := ((V104.other W109 (Ne.symm (Nat.ne_of_lt (Nat.lt_of_lt_of_le E1.lt g104)))).other W112 (Ne.symm (Nat.ne_of_lt (Nat.lt_of_lt_of_le E1.lt g104))))
    refine own_ret0 X112 hx hret hlk (hb hby own_d_jdk_42_method_149_code_57) (by decide) (by decide) ?_
    rw [e112]
    exact ⟨rfl, N112, ((((Keep.refl _ _).ext E104).wr W109 (Or.inl (List.mem_of_getElem? (i := 0) rfl))).wr W112 (Or.inl (List.mem_of_getElem? (i := 0) rfl))), r104, _, _, _, _, A113, (F110.same W112), F114, V115, hcod, hal, Nat.le_of_ble_eq_true rfl⟩
  · refine own_st (S' := T104.setTop (mkF m 39 #[.val (.ref x0), .val (.ref b0), .val (.int (0 : Int32)), .val (.int (4 : Int32)), .val .null, .unset] [(.ref r104)])) st104 ?_
    refine own_st (S' := T104.setTop (mkF m 45 #[.val (.ref x0), .val (.ref b0), .val (.int (0 : Int32)), .val (.int (4 : Int32)), .val .null, .val (.ref r104)] [(.int (4 : Int32)), (.ref r104), (.ref x0)])) (fun _ k => XS.astore X104.here hx rfl (hb hby own_d_jdk_42_method_149_code_39) rfl rfl (l' := #[.val (.ref x0), .val (.ref b0), .val (.int (0 : Int32)), .val (.int (4 : Int32)), .val .null, .val (.ref r104)]) rfl (XS.aloadN X104.here hx rfl (hb hby own_d_jdk_42_method_149_code_41) rfl rfl (XS.aload X104.here hx rfl (hb hby own_d_jdk_42_method_149_code_42) rfl rfl (XS.iloadN X104.here hx rfl (hb hby own_d_jdk_42_method_149_code_44) rfl k)))) ?_
    have XO116 : Old Z n0 h104 := (XO.ext E104)
    obtain ⟨_, _, ⟨T117, L117, k117, n117⟩, -, X117, ⟨Lc117, hQ117, l117, y117, z117⟩, st117⟩ := Jvm.LawKit.callS X104 hx (y := (⟨"java/lang/StringUTF16", "coderFromArrayLen", "([BI)B"⟩ : MethodName)) hown (mvT hZ (hw _ own_w28)) (mvT hZ (hw _ own_w29)) (mvT hZ (hw _ own_w22)) (mvT hZ (hw _ own_w30)) (by decide) (backOf (W := 1) (own_rm_cod48 l Z a0 hw G1 S1 P1 G3 S3 P3 S4 S5 S6 [] r104 kr104 _ h104 n0 (Nat.le_trans Z0 E104.1) XO116 V104) hZ (hw _ own_w30) (hw _ own_w22) (by decide) (by decide)) (g := (mkF m 45 #[.val (.ref x0), .val (.ref b0), .val (.int (0 : Int32)), .val (.int (4 : Int32)), .val .null, .val (.ref r104)] [(.int (4 : Int32)), (.ref r104), (.ref x0)])) rfl (by rw [hml]; rfl) (argsL := [(.ref r104), (.int (4 : Int32))]) (rest := [(.ref x0)]) (lenOf own_pd11 rfl) rfl (by show 2 * 0 + _ ≤ _; exact Nat.le_of_eq rfl) (hb hby own_d_jdk_42_method_149_code_45) (fun _ _ => ⟨rfl, e104, (by decide : 2 + 0 ≤ _), (by decide : 12 + 0 ≤ _)⟩)
    dsimp only [Pt.U, Pt.locs, Pt.cells, Pt.slots] at X117 l117 y117 z117 st117 hQ117
    subst l117 y117 z117
    obtain ⟨rfl, M117, e117⟩ := hQ117
    have N117 := Fr.app N104 M117
    refine own_st (S' := T117.setTop (mkF m 48 #[.val (.ref x0), .val (.ref b0), .val (.int (0 : Int32)), .val (.int (4 : Int32)), .val .null, .val (.ref r104)] [(.int (1 : Int32)), (.ref x0)])) st117 ?_
    have F118 : Fld Z h104 x0 "java/lang/String" "coder" "B" (.int (0 : Int32)) := (F2.ext E104)
    have A119 : Exa Z h104 x0 "java/lang/String" := (E1.ext E104)
    obtain ⟨T120, h120, X120, e120, W120, st120⟩ := putF X117 hx hZ hown (host := "") (Or.inl (hw _ own_w31)) Via.refl e117 F118 A119 (Or.inr ⟨(hw _ own_w32), rfl, hnm⟩) (hw _ own_w7) (ty := .byte) (by decide) rfl rfl (g := (mkF m 48 #[.val (.ref x0), .val (.ref b0), .val (.int (0 : Int32)), .val (.int (4 : Int32)), .val .null, .val (.ref r104)] [(.int (1 : Int32)), (.ref x0)])) rfl rfl (hb hby own_d_jdk_42_method_149_code_48)
    have N120 := Fr.snoc X120 N117 g0
    refine own_st (S' := T120.setTop (mkF m 51 #[.val (.ref x0), .val (.ref b0), .val (.int (0 : Int32)), .val (.int (4 : Int32)), .val .null, .val (.ref r104)] [])) st120 ?_
    refine own_st (S' := T120.setTop (mkF m 54 #[.val (.ref x0), .val (.ref b0), .val (.int (0 : Int32)), .val (.int (4 : Int32)), .val .null, .val (.ref r104)] [(.ref r104), (.ref x0)])) (fun _ k => XS.aloadN X120.here hx rfl (hb hby own_d_jdk_42_method_149_code_51) rfl rfl (XS.aload X120.here hx rfl (hb hby own_d_jdk_42_method_149_code_52) rfl rfl k)) ?_
    have F121 : Fld Z h120 x0 "java/lang/String" "value" "[B" .null := ((F1.ext E104).other W120 (Or.inr (slot_ne (Or.inr (hw _ own_w34)) (Or.inr (hw _ own_w32)) (by decide) (t := (.array .byte)) (t' := .byte) (by decide) (by decide))))
    have A122 : Exa Z h120 x0 "java/lang/String" := (A119.wr W120)
    obtain ⟨T123, h123, X123, e123, W123, st123⟩ := putF X120 hx hZ hown (host := "") (Or.inl (hw _ own_w33)) Via.refl e120 F121 A122 (Or.inr ⟨(hw _ own_w34), rfl, hnm⟩) (hw _ own_w7) (ty := (.array .byte)) (by decide) rfl rfl (g := (mkF m 54 #[.val (.ref x0), .val (.ref b0), .val (.int (0 : Int32)), .val (.int (4 : Int32)), .val .null, .val (.ref r104)] [(.ref r104), (.ref x0)])) rfl rfl (hb hby own_d_jdk_42_method_149_code_54)
    have N123 := Fr.snoc X123 N120 g0
    refine own_st (S' := T123.setTop (mkF m 57 #[.val (.ref x0), .val (.ref b0), .val (.int (0 : Int32)), .val (.int (4 : Int32)), .val .null, .val (.ref r104)] [])) st123 ?_
    have hal : ∀ c ∈ [c0, c1, c2, c3], ¬ c < 0 ∧ ¬ (65535 : Int32) < c := by
      intro c hc
      simp only [List.mem_cons, List.not_mem_nil, or_false] at hc
      rcases hc with rfl | rfl | rfl | rfl
      · exact hp0
      · exact hp1
      · exact hp2
      · exact hp3
    have hcod : StrChars.Road.CodA [c0, c1, c2, c3] 1 (8 : Int32) [.int (StrChars.lo8 c0), .int (StrChars.hi8 c0), .int (StrChars.lo8 c1), .int (StrChars.hi8 c1), .int (StrChars.lo8 c2), .int (StrChars.hi8 c2), .int (StrChars.lo8 c3), .int (StrChars.hi8 c3)] := Or.inr ⟨rfl, rfl, rfl, by
      rcases hs104 with q | q | q | q
      · exact ⟨_, List.mem_of_getElem? (i := 0) rfl, q⟩
      · exact ⟨_, List.mem_of_getElem? (i := 1) rfl, q⟩
      · exact ⟨_, List.mem_of_getElem? (i := 2) rfl, q⟩
      · exact ⟨_, List.mem_of_getElem? (i := 3) rfl, q⟩⟩
    have A124 : Exa Z h123 x0 "java/lang/String" := (A122.wr W123)
    have F125 : Fld Z h123 x0 "java/lang/String" "coder" "B" (.int (1 : Int32)) := ((F118.same W120).other W123 (Or.inr (slot_ne (Or.inr (hw _ own_w32)) (Or.inr (hw _ own_w34)) (by decide) (t := .byte) (t' := (.array .byte)) (by decide) (by decide))))
    have V126 : Arv Z h123 r104 kr104 .byte (8 : Int32) [(.int (StrChars.lo8 c0)), (.int (StrChars.hi8 c0)), (.int (StrChars.lo8 c1)), (.int (StrChars.hi8 c1)), (.int (StrChars.lo8 c2)), (.int (StrChars.hi8 c2)), (.int (StrChars.lo8 c3)), (.int (StrChars.hi8 c3))] (.int (0 : Int32)) := ((V104.other W120 (Ne.symm (Nat.ne_of_lt (Nat.lt_of_lt_of_le E1.lt g104)))).other W123 (Ne.symm (Nat.ne_of_lt (Nat.lt_of_lt_of_le E1.lt g104))))
    refine own_ret0 X123 hx hret hlk (hb hby own_d_jdk_42_method_149_code_57) (by decide) (by decide) ?_
    rw [e123]
    exact ⟨rfl, N123, ((((Keep.refl _ _).ext E104).wr W120 (Or.inl (List.mem_of_getElem? (i := 0) rfl))).wr W123 (Or.inl (List.mem_of_getElem? (i := 0) rfl))), r104, _, _, _, _, A124, (F121.same W123), F125, V126, hcod, hal, Nat.le_of_ble_eq_true rfl⟩
def own_Q_in14 (Z : State) (x0 : Addr) (c0 c1 c2 c3 : Int32) (h0 : Heap) (n0 : Nat) (v : Option Value) (h : Heap) (L : List Loc) : Prop := v = none ∧ Fr n0 L ∧ Keep h0 h [x0] ∧ own_Str Z h x0 [c0, c1, c2, c3]
theorem own_ef_in14 (m : MethodId) (x0 : Addr) (b0 : Addr) : entryFrame m #[(.ref x0), (.ref b0)] 2 = mkF m 0 #[.val (.ref x0), .val (.ref b0)] [] := by first | (simp [entryFrame, mkF, argsToLocals, Value.category, maxLocals]; done) | rfl
set_option maxRecDepth 65536 in
set_option maxHeartbeats 40000000 in
theorem own_rm_in14 (l : Launch) (Z : State) (a0 : Array Value) (hw : ∀ d ∈ tables_1, d.before a0 Z = true) (G1 : Int32) (S1 : Sta Z Z.heap "java/lang/String" "COMPACT_STRINGS" "Z" (.int G1)) (P1 : ¬ G1 = 0) (G3 : Value) (S3 : Sta Z Z.heap "jdk/internal/util/Preconditions" "SIOOBE_FORMATTER" "Ljava/util/function/BiFunction;" G3) (P3 : G3.isRef = true) (S4 : Sta Z Z.heap "java/lang/StringUTF16" "$assertionsDisabled" "Z" (.int (1 : Int32))) (S5 : Sta Z Z.heap "java/lang/StringUTF16" "HI_BYTE_SHIFT" "I" (.int (0 : Int32))) (S6 : Sta Z Z.heap "java/lang/StringUTF16" "LO_BYTE_SHIFT" "I" (.int (8 : Int32))) (ws : List Jvm.Cond) (x0 b0 : Addr) (kc : ClassId) (c0 c1 c2 c3 : Int32) (h0 : Heap) (n0 : Nat) (Z0 : n0 ≤ h0.size) (XO : Old Z n0 h0) (g0 : n0 ≤ x0) (E1 : Exa Z h0 x0 "java/lang/String") (F1 : Fld Z h0 x0 "java/lang/String" "value" "[B" .null) (F2 : Fld Z h0 x0 "java/lang/String" "coder" "B" (.int (0 : Int32))) (V1 : Arv Z h0 b0 kc .char (4 : Int32) [.int c0, .int c1, .int c2, .int c3] (.int (0 : Int32))) (hp0 : ¬ c0 < 0 ∧ ¬ (65535 : Int32) < c0) (hp1 : ¬ c1 < 0 ∧ ¬ (65535 : Int32) < c1) (hp2 : ¬ c2 < 0 ∧ ¬ (65535 : Int32) < c2) (hp3 : ¬ c3 < 0 ∧ ¬ (65535 : Int32) < c3) :
    own_Met l Z h0 (⟨"java/lang/String", "<init>", "([C)V"⟩ : MethodName) jdk_42_method_3_code 2 (none) ws { frames := 5, cells := 2, slots := 12, locals := 74 } #[(.ref x0), (.ref b0)] (own_Q_in14 Z x0 c0 c1 c2 c3 h0 n0) := by
  refine own_enter (plainFor_of_name own_pn1) (fun p e s m below meth c s₁ hx hby hlk hml hown hnm hret hZ X0 e0 => ?_)
  have N0 := Fr.nil n0
  refine own_st (S' := s₁.setTop (mkF m 0 #[.val (.ref x0), .val (.ref b0)] [])) (fun _ k => castTop (own_ef_in14 m x0 b0) k) ?_
  refine own_st (S' := s₁.setTop (mkF m 4 #[.val (.ref x0), .val (.ref b0)] [(.ref b0), (.int (0 : Int32)), (.ref b0), (.ref x0)])) (fun _ k => XS.aloadN X0.here hx rfl (hb hby own_d_jdk_42_method_3_code_0) rfl rfl (XS.aloadN X0.here hx rfl (hb hby own_d_jdk_42_method_3_code_1) rfl rfl (XS.iconst X0.here hx rfl (hb hby own_d_jdk_42_method_3_code_2) (XS.aloadN X0.here hx rfl (hb hby own_d_jdk_42_method_3_code_3) rfl rfl k)))) ?_
  obtain ⟨c101, A101, q101, S101, M101, H101, U101⟩ := id V1
  refine own_st (S' := s₁.setTop (mkF m 5 #[.val (.ref x0), .val (.ref b0)] [(.int (4 : Int32)), (.int (0 : Int32)), (.ref b0), (.ref x0)])) (len_of S101 M101 ▸ X0.arraylength hx (by rw [e0]; exact A101.1) (State.isArrayOf_alike hZ.alike A101.2.1) (g := (mkF m 4 #[.val (.ref x0), .val (.ref b0)] [(.ref b0), (.int (0 : Int32)), (.ref b0), (.ref x0)])) rfl rfl (hb hby own_d_jdk_42_method_3_code_4)) ?_
  refine own_st (S' := s₁.setTop (mkF m 6 #[.val (.ref x0), .val (.ref b0)] [.null, (.int (4 : Int32)), (.int (0 : Int32)), (.ref b0), (.ref x0)])) (fun _ k => XS.aconstNull X0.here hx rfl (hb hby own_d_jdk_42_method_3_code_5) k) ?_
  obtain ⟨_, _, ⟨T102, L102, k102, n102⟩, -, X102, ⟨Lc102, hQ102, l102, y102, z102⟩, st102⟩ := X0.specialBack hx (y := (⟨"java/lang/String", "<init>", "([CIILjava/lang/Void;)V"⟩ : MethodName)) rfl hown (mvT hZ (hw _ own_w12)) (mvT hZ (hw _ own_w13)) (mvT hZ (hw _ own_w15)) (by decide) (backOf (W := 0) (own_rm_in44 l Z a0 hw G1 S1 P1 G3 S3 P3 S4 S5 S6 [] x0 b0 kc c0 c1 c2 c3 h0 n0 (Nat.le_trans Z0 (Nat.le_refl _)) XO g0 E1 F1 F2 V1 hp0 hp1 hp2 hp3) hZ (hw _ own_w15) (hw _ own_w8) (by decide) (by decide)) (g := (mkF m 6 #[.val (.ref x0), .val (.ref b0)] [.null, (.int (4 : Int32)), (.int (0 : Int32)), (.ref b0), (.ref x0)])) rfl (by rw [hml]; rfl) (Steps.refl _) (a := x0) (argsL := [(.ref b0), (.int (0 : Int32)), (.int (4 : Int32)), .null]) (rest := []) (lenOf own_pd12 rfl) rfl (by show 2 * 0 + _ ≤ _; exact Nat.le_of_eq rfl) (hb hby own_d_jdk_42_method_3_code_6) (fun _ _ => ⟨rfl, e0, (by decide : 0 + 2 ≤ _), (by decide : 0 + 12 ≤ _)⟩)
  dsimp only [Pt.U, Pt.locs, Pt.cells, Pt.slots] at X102 l102 y102 z102 st102 hQ102
  subst l102 y102 z102
  obtain ⟨rfl, M102, K102, Y102⟩ := hQ102
  have N102 := Fr.app N0 M102
  obtain ⟨h102, e102⟩ : ∃ z, T102.heap = z := ⟨_, rfl⟩
  rw [e102] at K102 Y102
  refine own_tr (S' := T102.setTop (mkF m 9 #[.val (.ref x0), .val (.ref b0)] [])) st102 ?_
  refine own_ret0 X102 hx hret hlk (hb hby own_d_jdk_42_method_3_code_9) (by decide) (by decide) ?_
  rw [e102]
  exact ⟨rfl, N102, K102, Y102⟩
def own_Q_make4 (Z : State) (c0 c1 c2 c3 : Int32) (h0 : Heap) (n0 : Nat) (v : Option Value) (h : Heap) (L : List Loc) : Prop := ∃ r, v = some (.ref r) ∧ Fr n0 L ∧ Ext h0 h ∧ h0.size ≤ r ∧ own_Str Z h r [c0, c1, c2, c3]
theorem own_ef_make4 (m : MethodId) (c0 : Int32) (c1 : Int32) (c2 : Int32) (c3 : Int32) : entryFrame m #[(.int (4 : Int32)), (.int c0), (.int c1), (.int c2), (.int c3)] 6 = mkF m 0 #[.val (.int (4 : Int32)), .val (.int c0), .val (.int c1), .val (.int c2), .val (.int c3), .unset] [] := by first | (simp [entryFrame, mkF, argsToLocals, Value.category, maxLocals]; done) | rfl
set_option maxRecDepth 65536 in
set_option maxHeartbeats 40000000 in
theorem own_rm_make4 (l : Launch) (Z : State) (a0 : Array Value) (hw : ∀ d ∈ tables_1, d.before a0 Z = true) (G1 : Int32) (S1 : Sta Z Z.heap "java/lang/String" "COMPACT_STRINGS" "Z" (.int G1)) (P1 : ¬ G1 = 0) (G3 : Value) (S3 : Sta Z Z.heap "jdk/internal/util/Preconditions" "SIOOBE_FORMATTER" "Ljava/util/function/BiFunction;" G3) (P3 : G3.isRef = true) (S4 : Sta Z Z.heap "java/lang/StringUTF16" "$assertionsDisabled" "Z" (.int (1 : Int32))) (S5 : Sta Z Z.heap "java/lang/StringUTF16" "HI_BYTE_SHIFT" "I" (.int (0 : Int32))) (S6 : Sta Z Z.heap "java/lang/StringUTF16" "LO_BYTE_SHIFT" "I" (.int (8 : Int32))) (ws : List Jvm.Cond) (c0 c1 c2 c3 : Int32) (h0 : Heap) (n0 : Nat) (Z0 : n0 ≤ h0.size) (XO : Old Z n0 h0) (hp0 : ¬ c0 < 0 ∧ ¬ (65535 : Int32) < c0) (hn0 : nar .char c0 = c0) (hp1 : ¬ c1 < 0 ∧ ¬ (65535 : Int32) < c1) (hn1 : nar .char c1 = c1) (hp2 : ¬ c2 < 0 ∧ ¬ (65535 : Int32) < c2) (hn2 : nar .char c2 = c2) (hp3 : ¬ c3 < 0 ∧ ¬ (65535 : Int32) < c3) (hn3 : nar .char c3 = c3) :
    own_Met l Z h0 (⟨"com/example/sault/sault/ArgumentsLockNamePinLaw", "make", "(ICCCC)Ljava/lang/String;"⟩ : MethodName) method_3_code 6 (some (.object "java/lang/String")) ws { frames := 6, cells := 4, slots := 20, locals := 88 } #[(.int (4 : Int32)), (.int c0), (.int c1), (.int c2), (.int c3)] (own_Q_make4 Z c0 c1 c2 c3 h0 n0) := by
  refine own_enter (plainFor_of_name own_pn3) (fun p e s m below meth c s₁ hx hby hlk hml hown hnm hret hZ X0 e0 => ?_)
  have N0 := Fr.nil n0
  refine own_st (S' := s₁.setTop (mkF m 0 #[.val (.int (4 : Int32)), .val (.int c0), .val (.int c1), .val (.int c2), .val (.int c3), .unset] [])) (fun _ k => castTop (own_ef_make4 m c0 c1 c2 c3) k) ?_
  refine own_st (S' := s₁.setTop (mkF m 26 #[.val (.int (4 : Int32)), .val (.int c0), .val (.int c1), .val (.int c2), .val (.int c3), .unset] [(.int (4 : Int32))])) (fun _ k => XS.iloadN X0.here hx rfl (hb hby own_d_method_3_code_0) rfl (XS.iconst X0.here hx rfl (hb hby own_d_method_3_code_1) (XS.icmpYes X0.here hx rfl (pc0 := 2) (pc' := 25) rfl (hb hby own_d_method_3_code_2) rfl (by decide) (by decide) (by decide) (XS.iloadN X0.here hx rfl (hb hby own_d_method_3_code_25) rfl k)))) ?_
  refine own_st (S' := s₁.setTop (mkF m 57 #[.val (.int (4 : Int32)), .val (.int c0), .val (.int c1), .val (.int c2), .val (.int c3), .unset] [(.int (3 : Int32)), (.int (4 : Int32))])) (fun _ k => XS.iconst X0.here hx rfl (hb hby own_d_method_3_code_26) (XS.icmpYes X0.here hx rfl (pc0 := 27) (pc' := 55) rfl (hb hby own_d_method_3_code_27) rfl (by decide) (by decide) (by decide) (XS.iloadN X0.here hx rfl (hb hby own_d_method_3_code_55) rfl (XS.iconst X0.here hx rfl (hb hby own_d_method_3_code_56) k)))) ?_
  refine own_st (S' := s₁.setTop (mkF m 91 #[.val (.int (4 : Int32)), .val (.int c0), .val (.int c1), .val (.int c2), .val (.int c3), .unset] [(.int (4 : Int32))])) (fun _ k => XS.icmpYes X0.here hx rfl (pc0 := 57) (pc' := 90) rfl (hb hby own_d_method_3_code_57) rfl (by decide) (by decide) (by decide) (XS.iconst X0.here hx rfl (hb hby own_d_method_3_code_90) k)) ?_
  obtain ⟨T101, h101, k101, X101, e101, E101, A101, AE101, st101⟩ := newPE X0 hx hZ (aty := .char) (hw _ own_w5) e0 (g := (mkF m 91 #[.val (.int (4 : Int32)), .val (.int c0), .val (.int c1), .val (.int c2), .val (.int c3), .unset] [(.int (4 : Int32))])) rfl (hb hby own_d_method_3_code_91) rfl (by decide) (cap := 4) (by decide) (by decide) (by decide) (by decide) (ad := "[C") (by decide)
  obtain ⟨b101, g101⟩ : ∃ z, z = h0.size := ⟨_, rfl⟩
  rw [← g101] at A101 AE101 st101
  have V101 : Arv Z h101 b101 k101 .char (4 : Int32) [(.int (0 : Int32)), (.int (0 : Int32)), (.int (0 : Int32)), (.int (0 : Int32))] (.int (0 : Int32)) := (Arv.new A101 (by decide)).pad (pad_rep [] (.int (0 : Int32)) 4)
  refine own_st (S' := T101.setTop (mkF m 93 #[.val (.int (4 : Int32)), .val (.int c0), .val (.int c1), .val (.int c2), .val (.int c3), .unset] [(.ref b101)])) st101 ?_
  refine own_st (S' := T101.setTop (mkF m 99 #[.val (.int (4 : Int32)), .val (.int c0), .val (.int c1), .val (.int c2), .val (.int c3), .val (.ref b101)] [(.int c0), (.int (0 : Int32)), (.ref b101)])) (fun _ k => XS.astore X101.here hx rfl (hb hby own_d_method_3_code_93) rfl rfl (l' := #[.val (.int (4 : Int32)), .val (.int c0), .val (.int c1), .val (.int c2), .val (.int c3), .val (.ref b101)]) rfl (XS.aload X101.here hx rfl (hb hby own_d_method_3_code_95) rfl rfl (XS.iconst X101.here hx rfl (hb hby own_d_method_3_code_97) (XS.iloadN X101.here hx rfl (hb hby own_d_method_3_code_98) rfl k)))) ?_
  obtain ⟨c102, A102, q102, S102, M102, H102, U102⟩ := id V101
  obtain ⟨T102, h102, X102, e102, W102, st102⟩ := stC X101 hx hZ e101 A102 (j := (0 : Int32)) (inb_of S102 ⟨by decide, by decide⟩) (g := (mkF m 99 #[.val (.int (4 : Int32)), .val (.int c0), .val (.int c1), .val (.int c2), .val (.int c3), .val (.ref b101)] [(.int c0), (.int (0 : Int32)), (.ref b101)])) rfl rfl (hb hby own_d_method_3_code_99)
  have N102 := Fr.snoc X102 N0 (Nat.le_trans Z0 (Nat.le_of_eq g101.symm))
  have V102 : Arv Z h102 b101 k101 .char (4 : Int32) [(.int (nar .char c0)), (.int (0 : Int32)), (.int (0 : Int32)), (.int (0 : Int32))] (.int (0 : Int32)) := Arv.set A102 q102 S102 M102 H102 U102 (fits_nar_char _) W102 0 rfl (Nat.le_of_ble_eq_true rfl)
  refine own_st (S' := T102.setTop (mkF m 100 #[.val (.int (4 : Int32)), .val (.int c0), .val (.int c1), .val (.int c2), .val (.int c3), .val (.ref b101)] [])) st102 ?_
  refine own_st (S' := T102.setTop (mkF m 104 #[.val (.int (4 : Int32)), .val (.int c0), .val (.int c1), .val (.int c2), .val (.int c3), .val (.ref b101)] [(.int c1), (.int (1 : Int32)), (.ref b101)])) (fun _ k => XS.aload X102.here hx rfl (hb hby own_d_method_3_code_100) rfl rfl (XS.iconst X102.here hx rfl (hb hby own_d_method_3_code_102) (XS.iloadN X102.here hx rfl (hb hby own_d_method_3_code_103) rfl k))) ?_
  obtain ⟨c103, A103, q103, S103, M103, H103, U103⟩ := id V102
  obtain ⟨T103, h103, X103, e103, W103, st103⟩ := stC X102 hx hZ e102 A103 (j := (1 : Int32)) (inb_of S103 ⟨by decide, by decide⟩) (g := (mkF m 104 #[.val (.int (4 : Int32)), .val (.int c0), .val (.int c1), .val (.int c2), .val (.int c3), .val (.ref b101)] [(.int c1), (.int (1 : Int32)), (.ref b101)])) rfl rfl (hb hby own_d_method_3_code_104)
  have N103 := Fr.snoc X103 N102 (Nat.le_trans Z0 (Nat.le_of_eq g101.symm))
  have V103 : Arv Z h103 b101 k101 .char (4 : Int32) [(.int (nar .char c0)), (.int (nar .char c1)), (.int (0 : Int32)), (.int (0 : Int32))] (.int (0 : Int32)) := Arv.set A103 q103 S103 M103 H103 U103 (fits_nar_char _) W103 1 rfl (Nat.le_of_ble_eq_true rfl)
  refine own_st (S' := T103.setTop (mkF m 105 #[.val (.int (4 : Int32)), .val (.int c0), .val (.int c1), .val (.int c2), .val (.int c3), .val (.ref b101)] [])) st103 ?_
  refine own_st (S' := T103.setTop (mkF m 109 #[.val (.int (4 : Int32)), .val (.int c0), .val (.int c1), .val (.int c2), .val (.int c3), .val (.ref b101)] [(.int c2), (.int (2 : Int32)), (.ref b101)])) (fun _ k => XS.aload X103.here hx rfl (hb hby own_d_method_3_code_105) rfl rfl (XS.iconst X103.here hx rfl (hb hby own_d_method_3_code_107) (XS.iloadN X103.here hx rfl (hb hby own_d_method_3_code_108) rfl k))) ?_
  obtain ⟨c104, A104, q104, S104, M104, H104, U104⟩ := id V103
  obtain ⟨T104, h104, X104, e104, W104, st104⟩ := stC X103 hx hZ e103 A104 (j := (2 : Int32)) (inb_of S104 ⟨by decide, by decide⟩) (g := (mkF m 109 #[.val (.int (4 : Int32)), .val (.int c0), .val (.int c1), .val (.int c2), .val (.int c3), .val (.ref b101)] [(.int c2), (.int (2 : Int32)), (.ref b101)])) rfl rfl (hb hby own_d_method_3_code_109)
  have N104 := Fr.snoc X104 N103 (Nat.le_trans Z0 (Nat.le_of_eq g101.symm))
  have V104 : Arv Z h104 b101 k101 .char (4 : Int32) [(.int (nar .char c0)), (.int (nar .char c1)), (.int (nar .char c2)), (.int (0 : Int32))] (.int (0 : Int32)) := Arv.set A104 q104 S104 M104 H104 U104 (fits_nar_char _) W104 2 rfl (Nat.le_of_ble_eq_true rfl)
  refine own_st (S' := T104.setTop (mkF m 110 #[.val (.int (4 : Int32)), .val (.int c0), .val (.int c1), .val (.int c2), .val (.int c3), .val (.ref b101)] [])) st104 ?_
  refine own_st (S' := T104.setTop (mkF m 115 #[.val (.int (4 : Int32)), .val (.int c0), .val (.int c1), .val (.int c2), .val (.int c3), .val (.ref b101)] [(.int c3), (.int (3 : Int32)), (.ref b101)])) (fun _ k => XS.aload X104.here hx rfl (hb hby own_d_method_3_code_110) rfl rfl (XS.iconst X104.here hx rfl (hb hby own_d_method_3_code_112) (XS.iload X104.here hx rfl (hb hby own_d_method_3_code_113) rfl k))) ?_
  obtain ⟨c105, A105, q105, S105, M105, H105, U105⟩ := id V104
  obtain ⟨T105, h105, X105, e105, W105, st105⟩ := stC X104 hx hZ e104 A105 (j := (3 : Int32)) (inb_of S105 ⟨by decide, by decide⟩) (g := (mkF m 115 #[.val (.int (4 : Int32)), .val (.int c0), .val (.int c1), .val (.int c2), .val (.int c3), .val (.ref b101)] [(.int c3), (.int (3 : Int32)), (.ref b101)])) rfl rfl (hb hby own_d_method_3_code_115)
  have N105 := Fr.snoc X105 N104 (Nat.le_trans Z0 (Nat.le_of_eq g101.symm))
  have V105 : Arv Z h105 b101 k101 .char (4 : Int32) [(.int (nar .char c0)), (.int (nar .char c1)), (.int (nar .char c2)), (.int (nar .char c3))] (.int (0 : Int32)) := Arv.set A105 q105 S105 M105 H105 U105 (fits_nar_char _) W105 3 rfl (Nat.le_of_ble_eq_true rfl)
  refine own_st (S' := T105.setTop (mkF m 116 #[.val (.int (4 : Int32)), .val (.int c0), .val (.int c1), .val (.int c2), .val (.int c3), .val (.ref b101)] [])) st105 ?_
  obtain ⟨T106, h106, X106, e106, E106, A106, D106, -, st106⟩ := newO X105 hx hZ hown (hw _ own_w6) (hw _ own_w7) (hw _ own_w8) e105 (g := (mkF m 116 #[.val (.int (4 : Int32)), .val (.int c0), .val (.int c1), .val (.int c2), .val (.int c3), .val (.ref b101)] [])) rfl (hb hby own_d_method_3_code_116) (by decide) (by decide)
  obtain ⟨b106, g106⟩ : ∃ z, z = h105.size := ⟨_, rfl⟩
  rw [← g106] at A106 D106 st106
  refine own_st (S' := T106.setTop (mkF m 119 #[.val (.int (4 : Int32)), .val (.int c0), .val (.int c1), .val (.int c2), .val (.int c3), .val (.ref b101)] [(.ref b106)])) st106 ?_
  refine own_st (S' := T106.setTop (mkF m 122 #[.val (.int (4 : Int32)), .val (.int c0), .val (.int c1), .val (.int c2), .val (.int c3), .val (.ref b101)] [(.ref b101), (.ref b106), (.ref b106)])) (fun _ k => XS.dup X106.here hx rfl (hb hby own_d_method_3_code_119) rfl rfl (XS.aload X106.here hx rfl (hb hby own_d_method_3_code_120) rfl rfl k)) ?_
  have V107 : Arv Z h106 b101 k101 .char (4 : Int32) [(.int (nar .char c0)), (.int (nar .char c1)), (.int (nar .char c2)), (.int (nar .char c3))] (.int (0 : Int32)) := (V105.ext E106)
  have VC : Arv Z h106 b101 k101 .char (4 : Int32) [.int c0, .int c1, .int c2, .int c3] (.int (0 : Int32)) := by have q := V107; rw [hn0, hn1, hn2, hn3] at q; exact q
  have XE108 : Ext h0 h106 := (own_xt (own_xw (own_xw (own_xw (own_xw E101 W102 (Nat.le_of_eq g101.symm)) W103 (Nat.le_of_eq g101.symm)) W104 (Nat.le_of_eq g101.symm)) W105 (Nat.le_of_eq g101.symm)) E106)
  have XO109 : Old Z n0 h106 := (XO.ext XE108)
  obtain ⟨_, _, ⟨T110, L110, k110, n110⟩, -, X110, ⟨Lc110, hQ110, l110, y110, z110⟩, st110⟩ := X106.specialBack hx (y := (⟨"java/lang/String", "<init>", "([C)V"⟩ : MethodName)) rfl hown (mvT hZ (hw _ own_w9)) (mvT hZ (hw _ own_w10)) (mvT hZ (hw _ own_w11)) (by decide) (backOf (W := 1) (own_rm_in14 l Z a0 hw G1 S1 P1 G3 S3 P3 S4 S5 S6 [] b106 b101 k101 c0 c1 c2 c3 h106 n0 (Nat.le_trans Z0 (Nat.le_trans (Nat.le_trans (Nat.le_trans (Nat.le_trans (Nat.le_trans E101.1 (Nat.le_of_eq W102.size.symm)) (Nat.le_of_eq W103.size.symm)) (Nat.le_of_eq W104.size.symm)) (Nat.le_of_eq W105.size.symm)) E106.1)) XO109 (Nat.le_trans Z0 (Nat.le_trans (Nat.le_trans (Nat.le_trans (Nat.le_trans (Nat.le_trans E101.1 (Nat.le_of_eq W102.size.symm)) (Nat.le_of_eq W103.size.symm)) (Nat.le_of_eq W104.size.symm)) (Nat.le_of_eq W105.size.symm)) (Nat.le_of_eq g106.symm))) A106 (D106 (Or.inr (hw _ own_w34)) (ty := (.array .byte)) (by decide)) (D106 (Or.inr (hw _ own_w32)) (ty := .byte) (by decide)) VC hp0 hp1 hp2 hp3) hZ (hw _ own_w11) (hw _ own_w8) (by decide) (by decide)) (g := (mkF m 122 #[.val (.int (4 : Int32)), .val (.int c0), .val (.int c1), .val (.int c2), .val (.int c3), .val (.ref b101)] [(.ref b101), (.ref b106), (.ref b106)])) rfl (by rw [hml]; rfl) (Steps.refl _) (a := b106) (argsL := [(.ref b101)]) (rest := [(.ref b106)]) (lenOf own_pd13 rfl) rfl (by show 2 * 0 + _ ≤ _; exact Nat.le_of_eq rfl) (hb hby own_d_method_3_code_122) (fun _ _ => ⟨rfl, e106, (by decide : 2 + 2 ≤ _), (by decide : 8 + 12 ≤ _)⟩)
  dsimp only [Pt.U, Pt.locs, Pt.cells, Pt.slots] at X110 l110 y110 z110 st110 hQ110
  subst l110 y110 z110
  obtain ⟨rfl, M110, K110, Y110⟩ := hQ110
  have N110 := Fr.app N105 M110
  obtain ⟨h110, e110⟩ : ∃ z, T110.heap = z := ⟨_, rfl⟩
  rw [e110] at K110 Y110
  refine own_tr (S' := T110.setTop (mkF m 125 #[.val (.int (4 : Int32)), .val (.int c0), .val (.int c1), .val (.int c2), .val (.int c3), .val (.ref b101)] [(.ref b106)])) st110 ?_
  have XE111 : Ext h0 h110 := (own_xk XE108 K110 (allS (Nat.le_trans (Nat.le_trans (Nat.le_trans (Nat.le_trans (Nat.le_trans E101.1 (Nat.le_of_eq W102.size.symm)) (Nat.le_of_eq W103.size.symm)) (Nat.le_of_eq W104.size.symm)) (Nat.le_of_eq W105.size.symm)) (Nat.le_of_eq g106.symm)) all0))
  refine own_ret X110 hx hret hlk rfl (Or.inr (Or.inr (Or.inr (Or.inr ⟨rfl, rfl, rfl⟩)))) (hb hby own_d_method_3_code_125) (by decide) (by decide) ?_
  rw [e110]
  exact ⟨b106, rfl, N110, XE111, (Nat.le_trans (Nat.le_trans (Nat.le_trans (Nat.le_trans (Nat.le_trans E101.1 (Nat.le_of_eq W102.size.symm)) (Nat.le_of_eq W103.size.symm)) (Nat.le_of_eq W104.size.symm)) (Nat.le_of_eq W105.size.symm)) (Nat.le_of_eq g106.symm)), Y110⟩
def own_Q_lock (Z : State) (x0 : Addr) (h0 : Heap) (n0 : Nat) (v : Option Value) (h : Heap) (L : List Loc) : Prop := v = some (.ref x0) ∧ Fr n0 L ∧ h = h0
theorem own_ef_lock (m : MethodId) (x0 : Addr) : entryFrame m #[(.ref x0)] 1 = mkF m 0 #[.val (.ref x0)] [] := by first | (simp [entryFrame, mkF, argsToLocals, Value.category, maxLocals]; done) | rfl
set_option maxRecDepth 65536 in
set_option maxHeartbeats 40000000 in
theorem own_rm_lock (l : Launch) (Z : State) (a0 : Array Value) (hw : ∀ d ∈ tables_1, d.before a0 Z = true) (G1 : Int32) (S1 : Sta Z Z.heap "java/lang/String" "COMPACT_STRINGS" "Z" (.int G1)) (P1 : ¬ G1 = 0) (G3 : Value) (S3 : Sta Z Z.heap "jdk/internal/util/Preconditions" "SIOOBE_FORMATTER" "Ljava/util/function/BiFunction;" G3) (P3 : G3.isRef = true) (S4 : Sta Z Z.heap "java/lang/StringUTF16" "$assertionsDisabled" "Z" (.int (1 : Int32))) (S5 : Sta Z Z.heap "java/lang/StringUTF16" "HI_BYTE_SHIFT" "I" (.int (0 : Int32))) (S6 : Sta Z Z.heap "java/lang/StringUTF16" "LO_BYTE_SHIFT" "I" (.int (8 : Int32))) (ws : List Jvm.Cond) (x0 : Addr) (cs : List Int32) (h0 : Heap) (n0 : Nat) (Z0 : n0 ≤ h0.size) (XO : Old Z n0 h0) (Y1 : own_Str Z h0 x0 cs) (hne : ¬ cs.length = 0) :
    own_Met l Z h0 (⟨"com/example/sault/sault/Arguments", "lockName", "(Ljava/lang/String;)Ljava/lang/String;"⟩ : MethodName) prog_1_method_2_code 1 (some (.object "java/lang/String")) ws { frames := 1, cells := 0, slots := 0, locals := 12 } #[(.ref x0)] (own_Q_lock Z x0 h0 n0) := by
  refine own_enter (plainFor_of_name own_pn4) (fun p e s m below meth c s₁ hx hby hlk hml hown hnm hret hZ X0 e0 => ?_)
  have N0 := Fr.nil n0
  refine own_st (S' := s₁.setTop (mkF m 0 #[.val (.ref x0)] [])) (fun _ k => castTop (own_ef_lock m x0) k) ?_
  refine own_st (S' := s₁.setTop (mkF m 5 #[.val (.ref x0)] [(.ref x0)])) (fun _ k => XS.aloadN X0.here hx rfl (hb hby own_d_prog_1_method_2_code_0) rfl rfl (XS.ifnullNo X0.here hx rfl (hb hby own_d_prog_1_method_2_code_1) rfl (XS.aloadN X0.here hx rfl (hb hby own_d_prog_1_method_2_code_4) rfl rfl k))) ?_
  obtain ⟨cq101, kq101, q101a, q101b, q101c⟩ := isOf hZ e0 Y1.exa
  obtain ⟨_, _, ⟨T101, L101, k101, n101⟩, -, X101, ⟨Lc101, hQ101, l101, y101, z101⟩, st101⟩ := X0.virtualBack hx (y := (⟨"java/lang/String", "isEmpty", "()Z"⟩ : MethodName)) (z := (⟨"java/lang/String", "isEmpty", "()Z"⟩ : MethodName)) hown (mvT hZ (hw _ own_w39)) (mvT hZ (hw _ own_w40)) (notFace_of_selects (args := #[]) (mvT hZ (hw _ own_w42))) (mvT hZ (hw _ own_w42)) (mvT hZ (hw _ own_w41)) (by decide) (own_empB (W := 0) hZ hw Y1 (by decide) (by decide)) q101a q101c (g := (mkF m 5 #[.val (.ref x0)] [(.ref x0)])) rfl (by rw [hml]; rfl) (Steps.refl _) (argsL := []) (rest := []) (lenOf own_pd5 rfl) rfl (by show 2 * 0 + _ ≤ _; exact Nat.le_of_eq rfl) (hb hby own_d_prog_1_method_2_code_5) (fun _ _ => ⟨rfl, e0, (by decide : 0 + 0 ≤ _), (by decide : 0 + 0 ≤ _)⟩)
  dsimp only [Pt.U, Pt.locs, Pt.cells, Pt.slots] at X101 l101 y101 z101 st101 hQ101
  subst l101 y101 z101
  obtain ⟨rfl, rfl, e101⟩ := hQ101
  try rw [List.append_nil] at X101
  rw [if_neg hne] at st101
  refine own_tr (S' := T101.setTop (mkF m 8 #[.val (.ref x0)] [(.int (0 : Int32))])) st101 ?_
  refine own_st (S' := T101.setTop (mkF m 36 #[.val (.ref x0)] [(.ref x0)])) (fun _ k => XS.ifYes X101.here hx rfl (pc0 := 8) (pc' := 35) rfl (hb hby own_d_prog_1_method_2_code_8) rfl (by decide) (by decide) (by decide) (XS.aloadN X101.here hx rfl (hb hby own_d_prog_1_method_2_code_35) rfl rfl k)) ?_
  refine own_ret X101 hx hret hlk rfl (Or.inr (Or.inr (Or.inr (Or.inr ⟨rfl, rfl, rfl⟩)))) (hb hby own_d_prog_1_method_2_code_36) (by decide) (by decide) ?_
  rw [e101]
  exact ⟨rfl, N0, rfl⟩
def own_Q_law (Z : State) (h0 : Heap) (n0 : Nat) (v : Option Value) (h : Heap) (L : List Loc) : Prop := v = some (.int 1) ∧ Fr n0 L
theorem own_ef_law (m : MethodId) (p0 : Int32) (p1 : Int32) (p2 : Int32) (p3 : Int32) (p4 : Int32) : entryFrame m #[(.int p0), (.int p1), (.int p2), (.int p3), (.int p4)] maxLocals = mkF m 0 #[.val (.int p0), .val (.int p1), .val (.int p2), .val (.int p3), .val (.int p4), .unset, .unset, .unset, .unset, .unset, .unset, .unset, .unset] [] := by first | (simp [entryFrame, mkF, argsToLocals, Value.category, maxLocals]; done) | rfl
set_option maxRecDepth 65536 in
set_option maxHeartbeats 40000000 in
theorem own_rm_law (l : Launch) (Z : State) (a0 : Array Value) (hw : ∀ d ∈ tables_1, d.before a0 Z = true) (G1 : Int32) (S1 : Sta Z Z.heap "java/lang/String" "COMPACT_STRINGS" "Z" (.int G1)) (P1 : ¬ G1 = 0) (G3 : Value) (S3 : Sta Z Z.heap "jdk/internal/util/Preconditions" "SIOOBE_FORMATTER" "Ljava/util/function/BiFunction;" G3) (P3 : G3.isRef = true) (S4 : Sta Z Z.heap "java/lang/StringUTF16" "$assertionsDisabled" "Z" (.int (1 : Int32))) (S5 : Sta Z Z.heap "java/lang/StringUTF16" "HI_BYTE_SHIFT" "I" (.int (0 : Int32))) (S6 : Sta Z Z.heap "java/lang/StringUTF16" "LO_BYTE_SHIFT" "I" (.int (8 : Int32))) (ws : List Jvm.Cond) (p0 p1 p2 p3 p4 : Int32) (h0 : Heap) (n0 : Nat) (Z0 : n0 ≤ h0.size) (XO : Old Z n0 h0) :
    MetFree l x (head1 (Jvm.Cond.code x code maxLocals ret :: ws) (room_1 : Room)) (fun a U => a = #[(.int p0), (.int p1), (.int p2), (.int p3), (.int p4)] ∧ Z.Warmed39 U.vm ∧ U.heap = h0) (fun _ _ _ _ _ => True) (fun _ U o U' => ∃ v L, o = .returned v ∧ (own_Q_law Z h0 n0) v U'.heap L ∧ FrameEnd U o U' L 16 128) := by
  refine MetFree.of_bodySF (plainFor_of_name own_pn3) hisR ?_
  intro p e s m args below meth c s₁ Bd hml0 hP hK
  obtain ⟨rfl, hZ, hh⟩ := hP
  have hx := Bd.exec
  have hby := Bd.bytes
  have hlk : meth.locks = false := BodyLoose.notSynchronized Bd
  have hml : c.maxLocals = 13 := hml0
  have hown : s.vm.findClass "com/example/sault/sault/ArgumentsLockNamePinLaw" = some m.cls := findClass_of_methodNamed Bd.named
  have hnm := (name_of_methodNamed Bd.named Bd.method).1
  have X0 : Stand p l e (room_1 : Room) s m #[(.int p0), (.int p1), (.int p2), (.int p3), (.int p4)] below meth c s₁ [] 0 0 := Stand.of_body Bd
  have e0 : s₁.heap = h0 := by rw [← hh, Bd.state]; rfl
  have N0 := Fr.nil n0
  show own_Fin p e below (s₁.setTop (entryFrame m #[(.int p0), (.int p1), (.int p2), (.int p3), (.int p4)] maxLocals)) (own_End s ((own_Q_law Z h0 n0)) 16 128)
  refine own_st (S' := s₁.setTop (mkF m 0 #[.val (.int p0), .val (.int p1), .val (.int p2), .val (.int p3), .val (.int p4), .unset, .unset, .unset, .unset, .unset, .unset, .unset, .unset] [])) (fun _ k => castTop (own_ef_law m p0 p1 p2 p3 p4) k) ?_
  refine own_st (S' := s₁.setTop (mkF m 4 #[.val (.int p0), .val (.int p1), .val (.int p2), .val (.int p3), .val (.int p4), .unset, .unset, .unset, .unset, .unset, .unset, .unset, .unset] [(.int (1 : Int32)), (.int (p0 &&& (3 : Int32)))])) (fun _ k => XS.iloadN X0.here hx rfl (hb hby at_0) rfl (XS.iconst X0.here hx rfl (hb hby at_1) (XS.iand X0.here hx rfl (hb hby at_2) rfl (XS.iconst X0.here hx rfl (hb hby at_3) k)))) ?_
  refine own_st (S' := s₁.setTop (mkF m 5 #[.val (.int p0), .val (.int p1), .val (.int p2), .val (.int p3), .val (.int p4), .unset, .unset, .unset, .unset, .unset, .unset, .unset, .unset] [(.int ((p0 &&& (3 : Int32)) + (1 : Int32)))])) (fun _ k => XS.iadd X0.here hx rfl (hb hby at_4) rfl k) ?_
  rcases own_four p0 with hf | hf | hf | hf
  · rw [hf, show (0 : Int32) + (1 : Int32) = (1 : Int32) from by decide]
    refine own_st (S' := s₁.setTop (mkF m 8 #[.val (.int p0), .val (.int p1), .val (.int p2), .val (.int p3), .val (.int p4), .val (.int (1 : Int32)), .unset, .unset, .unset, .unset, .unset, .unset, .unset] [(.int p1)])) (fun _ k => XS.istore X0.here hx rfl (hb hby at_5) rfl (l' := #[.val (.int p0), .val (.int p1), .val (.int p2), .val (.int p3), .val (.int p4), .val (.int (1 : Int32)), .unset, .unset, .unset, .unset, .unset, .unset, .unset]) rfl (XS.iloadN X0.here hx rfl (hb hby at_7) rfl k)) ?_
    refine own_st (S' := s₁.setTop (mkF m 10 #[.val (.int p0), .val (.int p1), .val (.int p2), .val (.int p3), .val (.int p4), .val (.int (1 : Int32)), .unset, .unset, .unset, .unset, .unset, .unset, .unset] [(.int (65535 : Int32)), (.int p1)])) (X0.ldcInt hx hown (mvT hZ (hw _ own_w0)) (g := (mkF m 8 #[.val (.int p0), .val (.int p1), .val (.int p2), .val (.int p3), .val (.int p4), .val (.int (1 : Int32)), .unset, .unset, .unset, .unset, .unset, .unset, .unset] [(.int p1)])) rfl (hb hby at_8)) ?_
    refine own_st (S' := s₁.setTop (mkF m 14 #[.val (.int p0), .val (.int p1), .val (.int p2), .val (.int p3), .val (.int p4), .val (.int (1 : Int32)), .val (.int ((p1 &&& (65535 : Int32)).toUInt32.toUInt16.toUInt32.toInt32)), .unset, .unset, .unset, .unset, .unset, .unset] [])) (fun _ k => XS.iand X0.here hx rfl (hb hby at_10) rfl (XS.i2c X0.here hx rfl (hb hby at_11) rfl (XS.istore X0.here hx rfl (hb hby at_12) rfl (l' := #[.val (.int p0), .val (.int p1), .val (.int p2), .val (.int p3), .val (.int p4), .val (.int (1 : Int32)), .val (.int ((p1 &&& (65535 : Int32)).toUInt32.toUInt16.toUInt32.toInt32)), .unset, .unset, .unset, .unset, .unset, .unset]) rfl k))) ?_
    generalize gi101 : ((p1 &&& (65535 : Int32)).toUInt32.toUInt16.toUInt32.toInt32) = i101
    refine own_st (S' := s₁.setTop (mkF m 15 #[.val (.int p0), .val (.int p1), .val (.int p2), .val (.int p3), .val (.int p4), .val (.int (1 : Int32)), .val (.int i101), .unset, .unset, .unset, .unset, .unset, .unset] [(.int p2)])) (fun _ k => XS.iloadN X0.here hx rfl (hb hby at_14) rfl k) ?_
    refine own_st (S' := s₁.setTop (mkF m 17 #[.val (.int p0), .val (.int p1), .val (.int p2), .val (.int p3), .val (.int p4), .val (.int (1 : Int32)), .val (.int i101), .unset, .unset, .unset, .unset, .unset, .unset] [(.int (65535 : Int32)), (.int p2)])) (X0.ldcInt hx hown (mvT hZ (hw _ own_w0)) (g := (mkF m 15 #[.val (.int p0), .val (.int p1), .val (.int p2), .val (.int p3), .val (.int p4), .val (.int (1 : Int32)), .val (.int i101), .unset, .unset, .unset, .unset, .unset, .unset] [(.int p2)])) rfl (hb hby at_15)) ?_
    refine own_st (S' := s₁.setTop (mkF m 21 #[.val (.int p0), .val (.int p1), .val (.int p2), .val (.int p3), .val (.int p4), .val (.int (1 : Int32)), .val (.int i101), .val (.int ((p2 &&& (65535 : Int32)).toUInt32.toUInt16.toUInt32.toInt32)), .unset, .unset, .unset, .unset, .unset] [])) (fun _ k => XS.iand X0.here hx rfl (hb hby at_17) rfl (XS.i2c X0.here hx rfl (hb hby at_18) rfl (XS.istore X0.here hx rfl (hb hby at_19) rfl (l' := #[.val (.int p0), .val (.int p1), .val (.int p2), .val (.int p3), .val (.int p4), .val (.int (1 : Int32)), .val (.int i101), .val (.int ((p2 &&& (65535 : Int32)).toUInt32.toUInt16.toUInt32.toInt32)), .unset, .unset, .unset, .unset, .unset]) rfl k))) ?_
    generalize gi102 : ((p2 &&& (65535 : Int32)).toUInt32.toUInt16.toUInt32.toInt32) = i102
    refine own_st (S' := s₁.setTop (mkF m 22 #[.val (.int p0), .val (.int p1), .val (.int p2), .val (.int p3), .val (.int p4), .val (.int (1 : Int32)), .val (.int i101), .val (.int i102), .unset, .unset, .unset, .unset, .unset] [(.int p3)])) (fun _ k => XS.iloadN X0.here hx rfl (hb hby at_21) rfl k) ?_
    refine own_st (S' := s₁.setTop (mkF m 24 #[.val (.int p0), .val (.int p1), .val (.int p2), .val (.int p3), .val (.int p4), .val (.int (1 : Int32)), .val (.int i101), .val (.int i102), .unset, .unset, .unset, .unset, .unset] [(.int (65535 : Int32)), (.int p3)])) (X0.ldcInt hx hown (mvT hZ (hw _ own_w0)) (g := (mkF m 22 #[.val (.int p0), .val (.int p1), .val (.int p2), .val (.int p3), .val (.int p4), .val (.int (1 : Int32)), .val (.int i101), .val (.int i102), .unset, .unset, .unset, .unset, .unset] [(.int p3)])) rfl (hb hby at_22)) ?_
    refine own_st (S' := s₁.setTop (mkF m 28 #[.val (.int p0), .val (.int p1), .val (.int p2), .val (.int p3), .val (.int p4), .val (.int (1 : Int32)), .val (.int i101), .val (.int i102), .val (.int ((p3 &&& (65535 : Int32)).toUInt32.toUInt16.toUInt32.toInt32)), .unset, .unset, .unset, .unset] [])) (fun _ k => XS.iand X0.here hx rfl (hb hby at_24) rfl (XS.i2c X0.here hx rfl (hb hby at_25) rfl (XS.istore X0.here hx rfl (hb hby at_26) rfl (l' := #[.val (.int p0), .val (.int p1), .val (.int p2), .val (.int p3), .val (.int p4), .val (.int (1 : Int32)), .val (.int i101), .val (.int i102), .val (.int ((p3 &&& (65535 : Int32)).toUInt32.toUInt16.toUInt32.toInt32)), .unset, .unset, .unset, .unset]) rfl k))) ?_
    generalize gi103 : ((p3 &&& (65535 : Int32)).toUInt32.toUInt16.toUInt32.toInt32) = i103
    refine own_st (S' := s₁.setTop (mkF m 30 #[.val (.int p0), .val (.int p1), .val (.int p2), .val (.int p3), .val (.int p4), .val (.int (1 : Int32)), .val (.int i101), .val (.int i102), .val (.int i103), .unset, .unset, .unset, .unset] [(.int p4)])) (fun _ k => XS.iload X0.here hx rfl (hb hby at_28) rfl k) ?_
    refine own_st (S' := s₁.setTop (mkF m 32 #[.val (.int p0), .val (.int p1), .val (.int p2), .val (.int p3), .val (.int p4), .val (.int (1 : Int32)), .val (.int i101), .val (.int i102), .val (.int i103), .unset, .unset, .unset, .unset] [(.int (65535 : Int32)), (.int p4)])) (X0.ldcInt hx hown (mvT hZ (hw _ own_w0)) (g := (mkF m 30 #[.val (.int p0), .val (.int p1), .val (.int p2), .val (.int p3), .val (.int p4), .val (.int (1 : Int32)), .val (.int i101), .val (.int i102), .val (.int i103), .unset, .unset, .unset, .unset] [(.int p4)])) rfl (hb hby at_30)) ?_
    refine own_st (S' := s₁.setTop (mkF m 36 #[.val (.int p0), .val (.int p1), .val (.int p2), .val (.int p3), .val (.int p4), .val (.int (1 : Int32)), .val (.int i101), .val (.int i102), .val (.int i103), .val (.int ((p4 &&& (65535 : Int32)).toUInt32.toUInt16.toUInt32.toInt32)), .unset, .unset, .unset] [])) (fun _ k => XS.iand X0.here hx rfl (hb hby at_32) rfl (XS.i2c X0.here hx rfl (hb hby at_33) rfl (XS.istore X0.here hx rfl (hb hby at_34) rfl (l' := #[.val (.int p0), .val (.int p1), .val (.int p2), .val (.int p3), .val (.int p4), .val (.int (1 : Int32)), .val (.int i101), .val (.int i102), .val (.int i103), .val (.int ((p4 &&& (65535 : Int32)).toUInt32.toUInt16.toUInt32.toInt32)), .unset, .unset, .unset]) rfl k))) ?_
    generalize gi104 : ((p4 &&& (65535 : Int32)).toUInt32.toUInt16.toUInt32.toInt32) = i104
    refine own_st (S' := s₁.setTop (mkF m 44 #[.val (.int p0), .val (.int p1), .val (.int p2), .val (.int p3), .val (.int p4), .val (.int (1 : Int32)), .val (.int i101), .val (.int i102), .val (.int i103), .val (.int i104), .unset, .unset, .unset] [(.int i103), (.int i102), (.int i101), (.int (1 : Int32))])) (fun _ k => XS.iload X0.here hx rfl (hb hby at_36) rfl (XS.iload X0.here hx rfl (hb hby at_38) rfl (XS.iload X0.here hx rfl (hb hby at_40) rfl (XS.iload X0.here hx rfl (hb hby at_42) rfl k)))) ?_
    refine own_st (S' := s₁.setTop (mkF m 46 #[.val (.int p0), .val (.int p1), .val (.int p2), .val (.int p3), .val (.int p4), .val (.int (1 : Int32)), .val (.int i101), .val (.int i102), .val (.int i103), .val (.int i104), .unset, .unset, .unset] [(.int i104), (.int i103), (.int i102), (.int i101), (.int (1 : Int32))])) (fun _ k => XS.iload X0.here hx rfl (hb hby at_44) rfl k) ?_
    obtain ⟨_, _, ⟨T105, L105, k105, n105⟩, -, X105, ⟨Lc105, hQ105, l105, y105, z105⟩, st105⟩ := Jvm.LawKit.callS X0 hx (y := (⟨"com/example/sault/sault/ArgumentsLockNamePinLaw", "make", "(ICCCC)Ljava/lang/String;"⟩ : MethodName)) hown (mvT hZ (hw _ own_w1)) (mvT hZ (hw _ own_w2)) (mvT hZ (hw _ own_w3)) (mvT hZ (hw _ own_w4)) (by decide) (backOf (W := 0) (own_rm_make1 l Z a0 hw G1 S1 P1 G3 S3 P3 S4 S5 S6 [] i101 i102 i103 i104 h0 n0 (Nat.le_trans Z0 (Nat.le_refl _)) XO (own_chr gi101).1 (own_chr gi101).2 (own_chr gi102).1 (own_chr gi102).2 (own_chr gi103).1 (own_chr gi103).2 (own_chr gi104).1 (own_chr gi104).2) hZ (hw _ own_w4) (hw _ own_w3) (by decide) (by decide)) (g := (mkF m 46 #[.val (.int p0), .val (.int p1), .val (.int p2), .val (.int p3), .val (.int p4), .val (.int (1 : Int32)), .val (.int i101), .val (.int i102), .val (.int i103), .val (.int i104), .unset, .unset, .unset] [(.int i104), (.int i103), (.int i102), (.int i101), (.int (1 : Int32))])) rfl (by rw [hml]; rfl) (argsL := [(.int (1 : Int32)), (.int i101), (.int i102), (.int i103), (.int i104)]) (rest := []) (lenOf own_pd14 rfl) rfl (by show 2 * 0 + _ ≤ _; exact Nat.le_of_eq rfl) (hb hby at_46) (fun _ _ => ⟨rfl, e0, (by decide : 0 + 4 ≤ _), (by decide : 0 + 8 ≤ _)⟩)
    dsimp only [Pt.U, Pt.locs, Pt.cells, Pt.slots] at X105 l105 y105 z105 st105 hQ105
    subst l105 y105 z105
    obtain ⟨r105, rfl, M105, E105, g105, Y105⟩ := hQ105
    have N105 := Fr.app N0 M105
    obtain ⟨h105, e105⟩ : ∃ z, T105.heap = z := ⟨_, rfl⟩
    rw [e105] at E105 Y105
    refine own_st (S' := T105.setTop (mkF m 49 #[.val (.int p0), .val (.int p1), .val (.int p2), .val (.int p3), .val (.int p4), .val (.int (1 : Int32)), .val (.int i101), .val (.int i102), .val (.int i103), .val (.int i104), .unset, .unset, .unset] [(.ref r105)])) st105 ?_
    refine own_st (S' := T105.setTop (mkF m 57 #[.val (.int p0), .val (.int p1), .val (.int p2), .val (.int p3), .val (.int p4), .val (.int (1 : Int32)), .val (.int i101), .val (.int i102), .val (.int i103), .val (.int i104), .val (.ref r105), .val (.int i101), .unset] [(.int (1 : Int32))])) (fun _ k => XS.astore X105.here hx rfl (hb hby at_49) rfl rfl (l' := #[.val (.int p0), .val (.int p1), .val (.int p2), .val (.int p3), .val (.int p4), .val (.int (1 : Int32)), .val (.int i101), .val (.int i102), .val (.int i103), .val (.int i104), .val (.ref r105), .unset, .unset]) rfl (XS.iload X105.here hx rfl (hb hby at_51) rfl (XS.istore X105.here hx rfl (hb hby at_53) rfl (l' := #[.val (.int p0), .val (.int p1), .val (.int p2), .val (.int p3), .val (.int p4), .val (.int (1 : Int32)), .val (.int i101), .val (.int i102), .val (.int i103), .val (.int i104), .val (.ref r105), .val (.int i101), .unset]) rfl (XS.iload X105.here hx rfl (hb hby at_55) rfl k)))) ?_
    refine own_st (S' := T105.setTop (mkF m 71 #[.val (.int p0), .val (.int p1), .val (.int p2), .val (.int p3), .val (.int p4), .val (.int (1 : Int32)), .val (.int i101), .val (.int i102), .val (.int i103), .val (.int i104), .val (.ref r105), .val (.int i101), .unset] [(.int (3 : Int32)), (.int (1 : Int32))])) (fun _ k => XS.iconst X105.here hx rfl (hb hby at_57) (XS.icmpYes X105.here hx rfl (pc0 := 58) (pc' := 68) rfl (hb hby at_58) rfl (by decide) (by decide) (by decide) (XS.iload X105.here hx rfl (hb hby at_68) rfl (XS.iconst X105.here hx rfl (hb hby at_70) k)))) ?_
    refine own_st (S' := T105.setTop (mkF m 91 #[.val (.int p0), .val (.int p1), .val (.int p2), .val (.int p3), .val (.int p4), .val (.int (1 : Int32)), .val (.int i101), .val (.int i102), .val (.int i103), .val (.int i104), .val (.ref r105), .val (.int i101), .unset] [])) (fun _ k => XS.icmpYes X105.here hx rfl (pc0 := 71) (pc' := 81) rfl (hb hby at_71) rfl (by decide) (by decide) (by decide) (XS.iload X105.here hx rfl (hb hby at_81) rfl (XS.iconst X105.here hx rfl (hb hby at_83) (XS.icmpYes X105.here hx rfl (pc0 := 84) (pc' := 91) rfl (hb hby at_84) rfl (by decide) (by decide) (by decide) k)))) ?_
    refine own_st (S' := T105.setTop (mkF m 93 #[.val (.int p0), .val (.int p1), .val (.int p2), .val (.int p3), .val (.int p4), .val (.int (1 : Int32)), .val (.int i101), .val (.int i102), .val (.int i103), .val (.int i104), .val (.ref r105), .val (.int i101), .unset] [(.ref r105)])) (fun _ k => XS.aload X105.here hx rfl (hb hby at_91) rfl rfl k) ?_
    have XO106 : Old Z n0 h105 := (XO.ext E105)
    obtain ⟨_, _, ⟨T107, L107, k107, n107⟩, -, X107, ⟨Lc107, hQ107, l107, y107, z107⟩, st107⟩ := Jvm.LawKit.callS X105 hx (y := (⟨"com/example/sault/sault/Arguments", "lockName", "(Ljava/lang/String;)Ljava/lang/String;"⟩ : MethodName)) hown (mvT hZ (hw _ own_w35)) (mvT hZ (hw _ own_w36)) (mvT hZ (hw _ own_w37)) (mvT hZ (hw _ own_w38)) (by decide) (backOf (W := 0) (own_rm_lock l Z a0 hw G1 S1 P1 G3 S3 P3 S4 S5 S6 [] r105 _ h105 n0 (Nat.le_trans Z0 E105.1) XO106 Y105 (by simp)) hZ (hw _ own_w38) (hw _ own_w37) (by decide) (by decide)) (g := (mkF m 93 #[.val (.int p0), .val (.int p1), .val (.int p2), .val (.int p3), .val (.int p4), .val (.int (1 : Int32)), .val (.int i101), .val (.int i102), .val (.int i103), .val (.int i104), .val (.ref r105), .val (.int i101), .unset] [(.ref r105)])) rfl (by rw [hml]; rfl) (argsL := [(.ref r105)]) (rest := []) (lenOf own_pd15 rfl) rfl (by show 2 * 0 + _ ≤ _; exact Nat.le_of_eq rfl) (hb hby at_93) (fun _ _ => ⟨rfl, e105, (by decide : 4 + 0 ≤ _), (by decide : 8 + 0 ≤ _)⟩)
    dsimp only [Pt.U, Pt.locs, Pt.cells, Pt.slots] at X107 l107 y107 z107 st107 hQ107
    subst l107 y107 z107
    obtain ⟨rfl, M107, e107⟩ := hQ107
    have N107 := Fr.app N105 M107
    refine own_st (S' := T107.setTop (mkF m 96 #[.val (.int p0), .val (.int p1), .val (.int p2), .val (.int p3), .val (.int p4), .val (.int (1 : Int32)), .val (.int i101), .val (.int i102), .val (.int i103), .val (.int i104), .val (.ref r105), .val (.int i101), .unset] [(.ref r105)])) st107 ?_
    refine own_st (S' := T107.setTop (mkF m 102 #[.val (.int p0), .val (.int p1), .val (.int p2), .val (.int p3), .val (.int p4), .val (.int (1 : Int32)), .val (.int i101), .val (.int i102), .val (.int i103), .val (.int i104), .val (.ref r105), .val (.int i101), .val (.ref r105)] [(.ref r105), (.ref r105)])) (fun _ k => XS.astore X107.here hx rfl (hb hby at_96) rfl rfl (l' := #[.val (.int p0), .val (.int p1), .val (.int p2), .val (.int p3), .val (.int p4), .val (.int (1 : Int32)), .val (.int i101), .val (.int i102), .val (.int i103), .val (.int i104), .val (.ref r105), .val (.int i101), .val (.ref r105)]) rfl (XS.aload X107.here hx rfl (hb hby at_98) rfl rfl (XS.aload X107.here hx rfl (hb hby at_100) rfl rfl k))) ?_
    refine own_st (S' := T107.setTop (mkF m 105 #[.val (.int p0), .val (.int p1), .val (.int p2), .val (.int p3), .val (.int p4), .val (.int (1 : Int32)), .val (.int i101), .val (.int i102), .val (.int i103), .val (.int i104), .val (.ref r105), .val (.int i101), .val (.ref r105)] [])) (fun _ k => Jvm.RoadKit.acmp (g := (mkF m 102 #[.val (.int p0), .val (.int p1), .val (.int p2), .val (.int p3), .val (.int p4), .val (.int (1 : Int32)), .val (.int i101), .val (.int i102), .val (.int i103), .val (.int i104), .val (.ref r105), .val (.int i101), .val (.ref r105)] [(.ref r105), (.ref r105)])) X107 hx rfl rfl rfl (pc0 := 102) (pc' := 105) (same := true) rfl (hb hby at_102) rfl (decide_eq_true rfl) (by decide) (by decide) k) ?_
    refine own_st (S' := T107.setTop (mkF m 107 #[.val (.int p0), .val (.int p1), .val (.int p2), .val (.int p3), .val (.int p4), .val (.int (1 : Int32)), .val (.int i101), .val (.int i102), .val (.int i103), .val (.int i104), .val (.ref r105), .val (.int i101), .val (.ref r105)] [(.ref r105)])) (fun _ k => XS.aload X107.here hx rfl (hb hby at_105) rfl rfl k) ?_
    have S108 : Sta Z h105 "java/lang/String" "COMPACT_STRINGS" "Z" (.int G1) := (S1.ext XO106.2)
    obtain ⟨cq109, kq109, q109a, q109b, q109c⟩ := isOf hZ e107 Y105.exa
    obtain ⟨_, _, ⟨T109, L109, k109, n109⟩, -, X109, ⟨Lc109, hQ109, l109, y109, z109⟩, st109⟩ := X107.virtualBack hx (y := (⟨"java/lang/String", "length", "()I"⟩ : MethodName)) (z := (⟨"java/lang/String", "length", "()I"⟩ : MethodName)) hown (mvT hZ (hw _ own_w44)) (mvT hZ (hw _ own_w45)) (notFace_of_selects (args := #[]) (mvT hZ (hw _ own_w47))) (mvT hZ (hw _ own_w47)) (mvT hZ (hw _ own_w46)) (by decide) (own_lenB (W := 0) hZ hw Y105 S108 P1 (by decide) (by decide)) q109a q109c (g := (mkF m 107 #[.val (.int p0), .val (.int p1), .val (.int p2), .val (.int p3), .val (.int p4), .val (.int (1 : Int32)), .val (.int i101), .val (.int i102), .val (.int i103), .val (.int i104), .val (.ref r105), .val (.int i101), .val (.ref r105)] [(.ref r105)])) rfl (by rw [hml]; rfl) (Steps.refl _) (argsL := []) (rest := []) (lenOf own_pd16 rfl) rfl (by show 2 * 0 + _ ≤ _; exact Nat.le_of_eq rfl) (hb hby at_107) (fun _ _ => ⟨rfl, e107, (by decide : 4 + 0 ≤ _), (by decide : 8 + 0 ≤ _)⟩)
    dsimp only [Pt.U, Pt.locs, Pt.cells, Pt.slots] at X109 l109 y109 z109 st109 hQ109
    subst l109 y109 z109
    obtain ⟨rfl, rfl, e109⟩ := hQ109
    rw [List.append_nil] at X109
    refine own_tr (S' := T109.setTop (mkF m 110 #[.val (.int p0), .val (.int p1), .val (.int p2), .val (.int p3), .val (.int p4), .val (.int (1 : Int32)), .val (.int i101), .val (.int i102), .val (.int i103), .val (.int i104), .val (.ref r105), .val (.int i101), .val (.ref r105)] [(.int (1 : Int32))])) st109 ?_
    refine own_st (S' := T109.setTop (mkF m 118 #[.val (.int p0), .val (.int p1), .val (.int p2), .val (.int p3), .val (.int p4), .val (.int (1 : Int32)), .val (.int i101), .val (.int i102), .val (.int i103), .val (.int i104), .val (.ref r105), .val (.int i101), .val (.ref r105)] [(.int (0 : Int32)), (.ref r105)])) (fun _ k => XS.iload X109.here hx rfl (hb hby at_110) rfl (XS.icmpNo X109.here hx rfl (hb hby at_112) rfl (by decide) (XS.aload X109.here hx rfl (hb hby at_115) rfl rfl (XS.iconst X109.here hx rfl (hb hby at_117) k)))) ?_
    obtain ⟨d110, k110, cd110, N110, vs110, Ex110, Fv110, Fc110, V110, cod110, al110, -⟩ := id Y105
    rcases cod110 with ⟨rfl, rfl, rfl, sm110⟩ | ⟨rfl, rfl, rfl, lg110⟩
    · skip
      have S111 : Sta Z h105 "jdk/internal/util/Preconditions" "SIOOBE_FORMATTER" "Ljava/util/function/BiFunction;" G3 := (S3.ext XO106.2)
      obtain ⟨cq112, kq112, q112a, q112b, q112c⟩ := isOf hZ e109 Y105.exa
      obtain ⟨_, _, ⟨T112, L112, k112, n112⟩, -, X112, ⟨Lc112, hQ112, l112, y112, z112⟩, st112⟩ := X109.virtualBack hx (y := (⟨"java/lang/String", "charAt", "(I)C"⟩ : MethodName)) (z := (⟨"java/lang/String", "charAt", "(I)C"⟩ : MethodName)) hown (mvT hZ (hw _ own_w54)) (mvT hZ (hw _ own_w55)) (notFace_of_selects (args := #[]) (mvT hZ (hw _ own_w57))) (mvT hZ (hw _ own_w57)) (mvT hZ (hw _ own_w56)) (by decide) (own_chB (W := 0) (i := 0) hZ hw Y105 sm110 S108 P1 S111 P3 (Nat.le_of_ble_eq_true rfl) rfl (by decide) (by decide)) q112a q112c (g := (mkF m 118 #[.val (.int p0), .val (.int p1), .val (.int p2), .val (.int p3), .val (.int p4), .val (.int (1 : Int32)), .val (.int i101), .val (.int i102), .val (.int i103), .val (.int i104), .val (.ref r105), .val (.int i101), .val (.ref r105)] [(.int (0 : Int32)), (.ref r105)])) rfl (by rw [hml]; rfl) (Steps.refl _) (argsL := [(.int (0 : Int32))]) (rest := []) (lenOf own_pd17 rfl) rfl (by show 2 * 0 + _ ≤ _; exact Nat.le_of_eq rfl) (hb hby at_118) (fun _ _ => ⟨rfl, e109, (by decide : 4 + 0 ≤ _), (by decide : 8 + 0 ≤ _)⟩)
      dsimp only [Pt.U, Pt.locs, Pt.cells, Pt.slots] at X112 l112 y112 z112 st112 hQ112
      subst l112 y112 z112
      obtain ⟨rfl, rfl, e112⟩ := hQ112
      try rw [List.append_nil] at X112
      refine own_tr (S' := T112.setTop (mkF m 121 #[.val (.int p0), .val (.int p1), .val (.int p2), .val (.int p3), .val (.int p4), .val (.int (1 : Int32)), .val (.int i101), .val (.int i102), .val (.int i103), .val (.int i104), .val (.ref r105), .val (.int i101), .val (.ref r105)] [(.int i101)])) st112 ?_
      refine own_st (S' := T112.setTop (mkF m 130 #[.val (.int p0), .val (.int p1), .val (.int p2), .val (.int p3), .val (.int p4), .val (.int (1 : Int32)), .val (.int i101), .val (.int i102), .val (.int i103), .val (.int i104), .val (.ref r105), .val (.int i101), .val (.ref r105)] [(.int (1 : Int32)), (.ref r105)])) (fun _ k => XS.iload X112.here hx rfl (hb hby at_121) rfl (XS.icmpNo X112.here hx rfl (hb hby at_123) rfl (teq rfl).2 (XS.aload X112.here hx rfl (hb hby at_126) rfl rfl (XS.iload X112.here hx rfl (hb hby at_128) rfl k)))) ?_
      refine own_st (S' := T112.setTop (mkF m 132 #[.val (.int p0), .val (.int p1), .val (.int p2), .val (.int p3), .val (.int p4), .val (.int (1 : Int32)), .val (.int i101), .val (.int i102), .val (.int i103), .val (.int i104), .val (.ref r105), .val (.int i101), .val (.ref r105)] [(.int (0 : Int32)), (.ref r105)])) (fun _ k => XS.iconst X112.here hx rfl (hb hby at_130) (XS.isub X112.here hx rfl (hb hby at_131) rfl k)) ?_
      obtain ⟨cq113, kq113, q113a, q113b, q113c⟩ := isOf hZ e112 Y105.exa
      obtain ⟨_, _, ⟨T113, L113, k113, n113⟩, -, X113, ⟨Lc113, hQ113, l113, y113, z113⟩, st113⟩ := X112.virtualBack hx (y := (⟨"java/lang/String", "charAt", "(I)C"⟩ : MethodName)) (z := (⟨"java/lang/String", "charAt", "(I)C"⟩ : MethodName)) hown (mvT hZ (hw _ own_w54)) (mvT hZ (hw _ own_w55)) (notFace_of_selects (args := #[]) (mvT hZ (hw _ own_w57))) (mvT hZ (hw _ own_w57)) (mvT hZ (hw _ own_w56)) (by decide) (own_chB (W := 0) (i := 0) hZ hw Y105 sm110 S108 P1 S111 P3 (Nat.le_of_ble_eq_true rfl) rfl (by decide) (by decide)) q113a q113c (g := (mkF m 132 #[.val (.int p0), .val (.int p1), .val (.int p2), .val (.int p3), .val (.int p4), .val (.int (1 : Int32)), .val (.int i101), .val (.int i102), .val (.int i103), .val (.int i104), .val (.ref r105), .val (.int i101), .val (.ref r105)] [(.int (0 : Int32)), (.ref r105)])) rfl (by rw [hml]; rfl) (Steps.refl _) (argsL := [(.int (0 : Int32))]) (rest := []) (lenOf own_pd17 rfl) rfl (by show 2 * 0 + _ ≤ _; exact Nat.le_of_eq rfl) (hb hby at_132) (fun _ _ => ⟨rfl, e112, (by decide : 4 + 0 ≤ _), (by decide : 8 + 0 ≤ _)⟩)
      dsimp only [Pt.U, Pt.locs, Pt.cells, Pt.slots] at X113 l113 y113 z113 st113 hQ113
      subst l113 y113 z113
      obtain ⟨rfl, rfl, e113⟩ := hQ113
      try rw [List.append_nil] at X113
      refine own_tr (S' := T113.setTop (mkF m 135 #[.val (.int p0), .val (.int p1), .val (.int p2), .val (.int p3), .val (.int p4), .val (.int (1 : Int32)), .val (.int i101), .val (.int i102), .val (.int i103), .val (.int i104), .val (.ref r105), .val (.int i101), .val (.ref r105)] [(.int i101)])) st113 ?_
      refine own_st (S' := T113.setTop (mkF m 145 #[.val (.int p0), .val (.int p1), .val (.int p2), .val (.int p3), .val (.int p4), .val (.int (1 : Int32)), .val (.int i101), .val (.int i102), .val (.int i103), .val (.int i104), .val (.ref r105), .val (.int i101), .val (.ref r105)] [(.int (1 : Int32))])) (fun _ k => XS.iload X113.here hx rfl (hb hby at_135) rfl (XS.icmpNo X113.here hx rfl (hb hby at_137) rfl (teq rfl).2 (XS.iconst X113.here hx rfl (hb hby at_140) (XS.goto X113.here hx rfl (pc0 := 141) (pc' := 145) rfl (hb hby at_141) (by decide) (by decide) k)))) ?_
      refine own_ret X113 hx Bd.returns hlk rfl (Or.inl ⟨rfl, (by simp), _, rfl⟩) (hb hby at_145) (by decide) (by decide) ?_
      rw [e113]
      exact ⟨rfl, N107⟩
    · skip
      obtain ⟨cq114, kq114, q114a, q114b, q114c⟩ := isOf hZ e109 Y105.exa
      obtain ⟨_, _, ⟨T114, L114, k114, n114⟩, -, X114, ⟨Lc114, hQ114, l114, y114, z114⟩, st114⟩ := X109.virtualBack hx (y := (⟨"java/lang/String", "charAt", "(I)C"⟩ : MethodName)) (z := (⟨"java/lang/String", "charAt", "(I)C"⟩ : MethodName)) hown (mvT hZ (hw _ own_w54)) (mvT hZ (hw _ own_w55)) (notFace_of_selects (args := #[]) (mvT hZ (hw _ own_w57))) (mvT hZ (hw _ own_w57)) (mvT hZ (hw _ own_w56)) (by decide) (backOf (W := 0) (own_rm_sca l Z a0 hw G1 S1 P1 G3 S3 P3 S4 S5 S6 [] r105 d110 (0 : Int32) (0 : Int32) (2 : Int32) (StrChars.lo8 i101) (StrChars.hi8 i101) k110 _ h105 n0 (Nat.le_trans Z0 E105.1) XO106 Y105.exa Fv110 Fc110 V110 (by decide) ⟨by decide, by decide⟩ ⟨by decide, by decide⟩ rfl rfl (by decide) (by decide)) hZ (hw _ own_w58) (hw _ own_w8) (by decide) (by decide)) q114a q114c (g := (mkF m 118 #[.val (.int p0), .val (.int p1), .val (.int p2), .val (.int p3), .val (.int p4), .val (.int (1 : Int32)), .val (.int i101), .val (.int i102), .val (.int i103), .val (.int i104), .val (.ref r105), .val (.int i101), .val (.ref r105)] [(.int (0 : Int32)), (.ref r105)])) rfl (by rw [hml]; rfl) (Steps.refl _) (argsL := [(.int (0 : Int32))]) (rest := []) (lenOf own_pd17 rfl) rfl (by show 2 * 0 + _ ≤ _; exact Nat.le_of_eq rfl) (hb hby at_118) (fun _ _ => ⟨rfl, e109, (by decide : 4 + 0 ≤ _), (by decide : 8 + 0 ≤ _)⟩)
      dsimp only [Pt.U, Pt.locs, Pt.cells, Pt.slots] at X114 l114 y114 z114 st114 hQ114
      subst l114 y114 z114
      obtain ⟨rfl, M114, e114⟩ := hQ114
      have N114 := Fr.app N107 M114
      refine own_tr (S' := T114.setTop (mkF m 121 #[.val (.int p0), .val (.int p1), .val (.int p2), .val (.int p3), .val (.int p4), .val (.int (1 : Int32)), .val (.int i101), .val (.int i102), .val (.int i103), .val (.int i104), .val (.ref r105), .val (.int i101), .val (.ref r105)] [(.int (StrChars.pairCh (StrChars.lo8 i101) (StrChars.hi8 i101)))])) st114 ?_
      rw [StrChars.pair_says (own_chr gi101).1.1 (own_chr gi101).1.2]
      refine own_st (S' := T114.setTop (mkF m 130 #[.val (.int p0), .val (.int p1), .val (.int p2), .val (.int p3), .val (.int p4), .val (.int (1 : Int32)), .val (.int i101), .val (.int i102), .val (.int i103), .val (.int i104), .val (.ref r105), .val (.int i101), .val (.ref r105)] [(.int (1 : Int32)), (.ref r105)])) (fun _ k => XS.iload X114.here hx rfl (hb hby at_121) rfl (XS.icmpNo X114.here hx rfl (hb hby at_123) rfl (teq rfl).2 (XS.aload X114.here hx rfl (hb hby at_126) rfl rfl (XS.iload X114.here hx rfl (hb hby at_128) rfl k)))) ?_
      refine own_st (S' := T114.setTop (mkF m 132 #[.val (.int p0), .val (.int p1), .val (.int p2), .val (.int p3), .val (.int p4), .val (.int (1 : Int32)), .val (.int i101), .val (.int i102), .val (.int i103), .val (.int i104), .val (.ref r105), .val (.int i101), .val (.ref r105)] [(.int (0 : Int32)), (.ref r105)])) (fun _ k => XS.iconst X114.here hx rfl (hb hby at_130) (XS.isub X114.here hx rfl (hb hby at_131) rfl k)) ?_
      obtain ⟨cq115, kq115, q115a, q115b, q115c⟩ := isOf hZ e114 Y105.exa
      obtain ⟨_, _, ⟨T115, L115, k115, n115⟩, -, X115, ⟨Lc115, hQ115, l115, y115, z115⟩, st115⟩ := X114.virtualBack hx (y := (⟨"java/lang/String", "charAt", "(I)C"⟩ : MethodName)) (z := (⟨"java/lang/String", "charAt", "(I)C"⟩ : MethodName)) hown (mvT hZ (hw _ own_w54)) (mvT hZ (hw _ own_w55)) (notFace_of_selects (args := #[]) (mvT hZ (hw _ own_w57))) (mvT hZ (hw _ own_w57)) (mvT hZ (hw _ own_w56)) (by decide) (backOf (W := 0) (own_rm_sca l Z a0 hw G1 S1 P1 G3 S3 P3 S4 S5 S6 [] r105 d110 (0 : Int32) (0 : Int32) (2 : Int32) (StrChars.lo8 i101) (StrChars.hi8 i101) k110 _ h105 n0 (Nat.le_trans Z0 E105.1) XO106 Y105.exa Fv110 Fc110 V110 (by decide) ⟨by decide, by decide⟩ ⟨by decide, by decide⟩ rfl rfl (by decide) (by decide)) hZ (hw _ own_w58) (hw _ own_w8) (by decide) (by decide)) q115a q115c (g := (mkF m 132 #[.val (.int p0), .val (.int p1), .val (.int p2), .val (.int p3), .val (.int p4), .val (.int (1 : Int32)), .val (.int i101), .val (.int i102), .val (.int i103), .val (.int i104), .val (.ref r105), .val (.int i101), .val (.ref r105)] [(.int (0 : Int32)), (.ref r105)])) rfl (by rw [hml]; rfl) (Steps.refl _) (argsL := [(.int (0 : Int32))]) (rest := []) (lenOf own_pd17 rfl) rfl (by show 2 * 0 + _ ≤ _; exact Nat.le_of_eq rfl) (hb hby at_132) (fun _ _ => ⟨rfl, e114, (by decide : 4 + 0 ≤ _), (by decide : 8 + 0 ≤ _)⟩)
      dsimp only [Pt.U, Pt.locs, Pt.cells, Pt.slots] at X115 l115 y115 z115 st115 hQ115
      subst l115 y115 z115
      obtain ⟨rfl, M115, e115⟩ := hQ115
      have N115 := Fr.app N114 M115
      refine own_tr (S' := T115.setTop (mkF m 135 #[.val (.int p0), .val (.int p1), .val (.int p2), .val (.int p3), .val (.int p4), .val (.int (1 : Int32)), .val (.int i101), .val (.int i102), .val (.int i103), .val (.int i104), .val (.ref r105), .val (.int i101), .val (.ref r105)] [(.int (StrChars.pairCh (StrChars.lo8 i101) (StrChars.hi8 i101)))])) st115 ?_
      rw [StrChars.pair_says (own_chr gi101).1.1 (own_chr gi101).1.2]
      refine own_st (S' := T115.setTop (mkF m 145 #[.val (.int p0), .val (.int p1), .val (.int p2), .val (.int p3), .val (.int p4), .val (.int (1 : Int32)), .val (.int i101), .val (.int i102), .val (.int i103), .val (.int i104), .val (.ref r105), .val (.int i101), .val (.ref r105)] [(.int (1 : Int32))])) (fun _ k => XS.iload X115.here hx rfl (hb hby at_135) rfl (XS.icmpNo X115.here hx rfl (hb hby at_137) rfl (teq rfl).2 (XS.iconst X115.here hx rfl (hb hby at_140) (XS.goto X115.here hx rfl (pc0 := 141) (pc' := 145) rfl (hb hby at_141) (by decide) (by decide) k)))) ?_
      refine own_ret X115 hx Bd.returns hlk rfl (Or.inl ⟨rfl, (by simp), _, rfl⟩) (hb hby at_145) (by decide) (by decide) ?_
      rw [e115]
      exact ⟨rfl, N115⟩
  · rw [hf, show (1 : Int32) + (1 : Int32) = (2 : Int32) from by decide]
    refine own_st (S' := s₁.setTop (mkF m 8 #[.val (.int p0), .val (.int p1), .val (.int p2), .val (.int p3), .val (.int p4), .val (.int (2 : Int32)), .unset, .unset, .unset, .unset, .unset, .unset, .unset] [(.int p1)])) (fun _ k => XS.istore X0.here hx rfl (hb hby at_5) rfl (l' := #[.val (.int p0), .val (.int p1), .val (.int p2), .val (.int p3), .val (.int p4), .val (.int (2 : Int32)), .unset, .unset, .unset, .unset, .unset, .unset, .unset]) rfl (XS.iloadN X0.here hx rfl (hb hby at_7) rfl k)) ?_
    refine own_st (S' := s₁.setTop (mkF m 10 #[.val (.int p0), .val (.int p1), .val (.int p2), .val (.int p3), .val (.int p4), .val (.int (2 : Int32)), .unset, .unset, .unset, .unset, .unset, .unset, .unset] [(.int (65535 : Int32)), (.int p1)])) (X0.ldcInt hx hown (mvT hZ (hw _ own_w0)) (g := (mkF m 8 #[.val (.int p0), .val (.int p1), .val (.int p2), .val (.int p3), .val (.int p4), .val (.int (2 : Int32)), .unset, .unset, .unset, .unset, .unset, .unset, .unset] [(.int p1)])) rfl (hb hby at_8)) ?_
    refine own_st (S' := s₁.setTop (mkF m 14 #[.val (.int p0), .val (.int p1), .val (.int p2), .val (.int p3), .val (.int p4), .val (.int (2 : Int32)), .val (.int ((p1 &&& (65535 : Int32)).toUInt32.toUInt16.toUInt32.toInt32)), .unset, .unset, .unset, .unset, .unset, .unset] [])) (fun _ k => XS.iand X0.here hx rfl (hb hby at_10) rfl (XS.i2c X0.here hx rfl (hb hby at_11) rfl (XS.istore X0.here hx rfl (hb hby at_12) rfl (l' := #[.val (.int p0), .val (.int p1), .val (.int p2), .val (.int p3), .val (.int p4), .val (.int (2 : Int32)), .val (.int ((p1 &&& (65535 : Int32)).toUInt32.toUInt16.toUInt32.toInt32)), .unset, .unset, .unset, .unset, .unset, .unset]) rfl k))) ?_
    generalize gi116 : ((p1 &&& (65535 : Int32)).toUInt32.toUInt16.toUInt32.toInt32) = i116
    refine own_st (S' := s₁.setTop (mkF m 15 #[.val (.int p0), .val (.int p1), .val (.int p2), .val (.int p3), .val (.int p4), .val (.int (2 : Int32)), .val (.int i116), .unset, .unset, .unset, .unset, .unset, .unset] [(.int p2)])) (fun _ k => XS.iloadN X0.here hx rfl (hb hby at_14) rfl k) ?_
    refine own_st (S' := s₁.setTop (mkF m 17 #[.val (.int p0), .val (.int p1), .val (.int p2), .val (.int p3), .val (.int p4), .val (.int (2 : Int32)), .val (.int i116), .unset, .unset, .unset, .unset, .unset, .unset] [(.int (65535 : Int32)), (.int p2)])) (X0.ldcInt hx hown (mvT hZ (hw _ own_w0)) (g := (mkF m 15 #[.val (.int p0), .val (.int p1), .val (.int p2), .val (.int p3), .val (.int p4), .val (.int (2 : Int32)), .val (.int i116), .unset, .unset, .unset, .unset, .unset, .unset] [(.int p2)])) rfl (hb hby at_15)) ?_
    refine own_st (S' := s₁.setTop (mkF m 21 #[.val (.int p0), .val (.int p1), .val (.int p2), .val (.int p3), .val (.int p4), .val (.int (2 : Int32)), .val (.int i116), .val (.int ((p2 &&& (65535 : Int32)).toUInt32.toUInt16.toUInt32.toInt32)), .unset, .unset, .unset, .unset, .unset] [])) (fun _ k => XS.iand X0.here hx rfl (hb hby at_17) rfl (XS.i2c X0.here hx rfl (hb hby at_18) rfl (XS.istore X0.here hx rfl (hb hby at_19) rfl (l' := #[.val (.int p0), .val (.int p1), .val (.int p2), .val (.int p3), .val (.int p4), .val (.int (2 : Int32)), .val (.int i116), .val (.int ((p2 &&& (65535 : Int32)).toUInt32.toUInt16.toUInt32.toInt32)), .unset, .unset, .unset, .unset, .unset]) rfl k))) ?_
    generalize gi117 : ((p2 &&& (65535 : Int32)).toUInt32.toUInt16.toUInt32.toInt32) = i117
    refine own_st (S' := s₁.setTop (mkF m 22 #[.val (.int p0), .val (.int p1), .val (.int p2), .val (.int p3), .val (.int p4), .val (.int (2 : Int32)), .val (.int i116), .val (.int i117), .unset, .unset, .unset, .unset, .unset] [(.int p3)])) (fun _ k => XS.iloadN X0.here hx rfl (hb hby at_21) rfl k) ?_
    refine own_st (S' := s₁.setTop (mkF m 24 #[.val (.int p0), .val (.int p1), .val (.int p2), .val (.int p3), .val (.int p4), .val (.int (2 : Int32)), .val (.int i116), .val (.int i117), .unset, .unset, .unset, .unset, .unset] [(.int (65535 : Int32)), (.int p3)])) (X0.ldcInt hx hown (mvT hZ (hw _ own_w0)) (g := (mkF m 22 #[.val (.int p0), .val (.int p1), .val (.int p2), .val (.int p3), .val (.int p4), .val (.int (2 : Int32)), .val (.int i116), .val (.int i117), .unset, .unset, .unset, .unset, .unset] [(.int p3)])) rfl (hb hby at_22)) ?_
    refine own_st (S' := s₁.setTop (mkF m 28 #[.val (.int p0), .val (.int p1), .val (.int p2), .val (.int p3), .val (.int p4), .val (.int (2 : Int32)), .val (.int i116), .val (.int i117), .val (.int ((p3 &&& (65535 : Int32)).toUInt32.toUInt16.toUInt32.toInt32)), .unset, .unset, .unset, .unset] [])) (fun _ k => XS.iand X0.here hx rfl (hb hby at_24) rfl (XS.i2c X0.here hx rfl (hb hby at_25) rfl (XS.istore X0.here hx rfl (hb hby at_26) rfl (l' := #[.val (.int p0), .val (.int p1), .val (.int p2), .val (.int p3), .val (.int p4), .val (.int (2 : Int32)), .val (.int i116), .val (.int i117), .val (.int ((p3 &&& (65535 : Int32)).toUInt32.toUInt16.toUInt32.toInt32)), .unset, .unset, .unset, .unset]) rfl k))) ?_
    generalize gi118 : ((p3 &&& (65535 : Int32)).toUInt32.toUInt16.toUInt32.toInt32) = i118
    refine own_st (S' := s₁.setTop (mkF m 30 #[.val (.int p0), .val (.int p1), .val (.int p2), .val (.int p3), .val (.int p4), .val (.int (2 : Int32)), .val (.int i116), .val (.int i117), .val (.int i118), .unset, .unset, .unset, .unset] [(.int p4)])) (fun _ k => XS.iload X0.here hx rfl (hb hby at_28) rfl k) ?_
    refine own_st (S' := s₁.setTop (mkF m 32 #[.val (.int p0), .val (.int p1), .val (.int p2), .val (.int p3), .val (.int p4), .val (.int (2 : Int32)), .val (.int i116), .val (.int i117), .val (.int i118), .unset, .unset, .unset, .unset] [(.int (65535 : Int32)), (.int p4)])) (X0.ldcInt hx hown (mvT hZ (hw _ own_w0)) (g := (mkF m 30 #[.val (.int p0), .val (.int p1), .val (.int p2), .val (.int p3), .val (.int p4), .val (.int (2 : Int32)), .val (.int i116), .val (.int i117), .val (.int i118), .unset, .unset, .unset, .unset] [(.int p4)])) rfl (hb hby at_30)) ?_
    refine own_st (S' := s₁.setTop (mkF m 36 #[.val (.int p0), .val (.int p1), .val (.int p2), .val (.int p3), .val (.int p4), .val (.int (2 : Int32)), .val (.int i116), .val (.int i117), .val (.int i118), .val (.int ((p4 &&& (65535 : Int32)).toUInt32.toUInt16.toUInt32.toInt32)), .unset, .unset, .unset] [])) (fun _ k => XS.iand X0.here hx rfl (hb hby at_32) rfl (XS.i2c X0.here hx rfl (hb hby at_33) rfl (XS.istore X0.here hx rfl (hb hby at_34) rfl (l' := #[.val (.int p0), .val (.int p1), .val (.int p2), .val (.int p3), .val (.int p4), .val (.int (2 : Int32)), .val (.int i116), .val (.int i117), .val (.int i118), .val (.int ((p4 &&& (65535 : Int32)).toUInt32.toUInt16.toUInt32.toInt32)), .unset, .unset, .unset]) rfl k))) ?_
    generalize gi119 : ((p4 &&& (65535 : Int32)).toUInt32.toUInt16.toUInt32.toInt32) = i119
    refine own_st (S' := s₁.setTop (mkF m 44 #[.val (.int p0), .val (.int p1), .val (.int p2), .val (.int p3), .val (.int p4), .val (.int (2 : Int32)), .val (.int i116), .val (.int i117), .val (.int i118), .val (.int i119), .unset, .unset, .unset] [(.int i118), (.int i117), (.int i116), (.int (2 : Int32))])) (fun _ k => XS.iload X0.here hx rfl (hb hby at_36) rfl (XS.iload X0.here hx rfl (hb hby at_38) rfl (XS.iload X0.here hx rfl (hb hby at_40) rfl (XS.iload X0.here hx rfl (hb hby at_42) rfl k)))) ?_
    refine own_st (S' := s₁.setTop (mkF m 46 #[.val (.int p0), .val (.int p1), .val (.int p2), .val (.int p3), .val (.int p4), .val (.int (2 : Int32)), .val (.int i116), .val (.int i117), .val (.int i118), .val (.int i119), .unset, .unset, .unset] [(.int i119), (.int i118), (.int i117), (.int i116), (.int (2 : Int32))])) (fun _ k => XS.iload X0.here hx rfl (hb hby at_44) rfl k) ?_
    obtain ⟨_, _, ⟨T120, L120, k120, n120⟩, -, X120, ⟨Lc120, hQ120, l120, y120, z120⟩, st120⟩ := Jvm.LawKit.callS X0 hx (y := (⟨"com/example/sault/sault/ArgumentsLockNamePinLaw", "make", "(ICCCC)Ljava/lang/String;"⟩ : MethodName)) hown (mvT hZ (hw _ own_w1)) (mvT hZ (hw _ own_w2)) (mvT hZ (hw _ own_w3)) (mvT hZ (hw _ own_w4)) (by decide) (backOf (W := 0) (own_rm_make2 l Z a0 hw G1 S1 P1 G3 S3 P3 S4 S5 S6 [] i116 i117 i118 i119 h0 n0 (Nat.le_trans Z0 (Nat.le_refl _)) XO (own_chr gi116).1 (own_chr gi116).2 (own_chr gi117).1 (own_chr gi117).2 (own_chr gi118).1 (own_chr gi118).2 (own_chr gi119).1 (own_chr gi119).2) hZ (hw _ own_w4) (hw _ own_w3) (by decide) (by decide)) (g := (mkF m 46 #[.val (.int p0), .val (.int p1), .val (.int p2), .val (.int p3), .val (.int p4), .val (.int (2 : Int32)), .val (.int i116), .val (.int i117), .val (.int i118), .val (.int i119), .unset, .unset, .unset] [(.int i119), (.int i118), (.int i117), (.int i116), (.int (2 : Int32))])) rfl (by rw [hml]; rfl) (argsL := [(.int (2 : Int32)), (.int i116), (.int i117), (.int i118), (.int i119)]) (rest := []) (lenOf own_pd14 rfl) rfl (by show 2 * 0 + _ ≤ _; exact Nat.le_of_eq rfl) (hb hby at_46) (fun _ _ => ⟨rfl, e0, (by decide : 0 + 4 ≤ _), (by decide : 0 + 12 ≤ _)⟩)
    dsimp only [Pt.U, Pt.locs, Pt.cells, Pt.slots] at X120 l120 y120 z120 st120 hQ120
    subst l120 y120 z120
    obtain ⟨r120, rfl, M120, E120, g120, Y120⟩ := hQ120
    have N120 := Fr.app N0 M120
    obtain ⟨h120, e120⟩ : ∃ z, T120.heap = z := ⟨_, rfl⟩
    rw [e120] at E120 Y120
    refine own_st (S' := T120.setTop (mkF m 49 #[.val (.int p0), .val (.int p1), .val (.int p2), .val (.int p3), .val (.int p4), .val (.int (2 : Int32)), .val (.int i116), .val (.int i117), .val (.int i118), .val (.int i119), .unset, .unset, .unset] [(.ref r120)])) st120 ?_
    refine own_st (S' := T120.setTop (mkF m 57 #[.val (.int p0), .val (.int p1), .val (.int p2), .val (.int p3), .val (.int p4), .val (.int (2 : Int32)), .val (.int i116), .val (.int i117), .val (.int i118), .val (.int i119), .val (.ref r120), .val (.int i116), .unset] [(.int (2 : Int32))])) (fun _ k => XS.astore X120.here hx rfl (hb hby at_49) rfl rfl (l' := #[.val (.int p0), .val (.int p1), .val (.int p2), .val (.int p3), .val (.int p4), .val (.int (2 : Int32)), .val (.int i116), .val (.int i117), .val (.int i118), .val (.int i119), .val (.ref r120), .unset, .unset]) rfl (XS.iload X120.here hx rfl (hb hby at_51) rfl (XS.istore X120.here hx rfl (hb hby at_53) rfl (l' := #[.val (.int p0), .val (.int p1), .val (.int p2), .val (.int p3), .val (.int p4), .val (.int (2 : Int32)), .val (.int i116), .val (.int i117), .val (.int i118), .val (.int i119), .val (.ref r120), .val (.int i116), .unset]) rfl (XS.iload X120.here hx rfl (hb hby at_55) rfl k)))) ?_
    refine own_st (S' := T120.setTop (mkF m 65 #[.val (.int p0), .val (.int p1), .val (.int p2), .val (.int p3), .val (.int p4), .val (.int (2 : Int32)), .val (.int i116), .val (.int i117), .val (.int i118), .val (.int i119), .val (.ref r120), .val (.int i117), .unset] [])) (fun _ k => XS.iconst X120.here hx rfl (hb hby at_57) (XS.icmpNo X120.here hx rfl (hb hby at_58) rfl (by decide) (XS.iload X120.here hx rfl (hb hby at_61) rfl (XS.istore X120.here hx rfl (hb hby at_63) rfl (l' := #[.val (.int p0), .val (.int p1), .val (.int p2), .val (.int p3), .val (.int p4), .val (.int (2 : Int32)), .val (.int i116), .val (.int i117), .val (.int i118), .val (.int i119), .val (.ref r120), .val (.int i117), .unset]) rfl k)))) ?_
    refine own_st (S' := T120.setTop (mkF m 93 #[.val (.int p0), .val (.int p1), .val (.int p2), .val (.int p3), .val (.int p4), .val (.int (2 : Int32)), .val (.int i116), .val (.int i117), .val (.int i118), .val (.int i119), .val (.ref r120), .val (.int i117), .unset] [(.ref r120)])) (fun _ k => XS.goto X120.here hx rfl (pc0 := 65) (pc' := 91) rfl (hb hby at_65) (by decide) (by decide) (XS.aload X120.here hx rfl (hb hby at_91) rfl rfl k)) ?_
    have XO121 : Old Z n0 h120 := (XO.ext E120)
    obtain ⟨_, _, ⟨T122, L122, k122, n122⟩, -, X122, ⟨Lc122, hQ122, l122, y122, z122⟩, st122⟩ := Jvm.LawKit.callS X120 hx (y := (⟨"com/example/sault/sault/Arguments", "lockName", "(Ljava/lang/String;)Ljava/lang/String;"⟩ : MethodName)) hown (mvT hZ (hw _ own_w35)) (mvT hZ (hw _ own_w36)) (mvT hZ (hw _ own_w37)) (mvT hZ (hw _ own_w38)) (by decide) (backOf (W := 0) (own_rm_lock l Z a0 hw G1 S1 P1 G3 S3 P3 S4 S5 S6 [] r120 _ h120 n0 (Nat.le_trans Z0 E120.1) XO121 Y120 (by simp)) hZ (hw _ own_w38) (hw _ own_w37) (by decide) (by decide)) (g := (mkF m 93 #[.val (.int p0), .val (.int p1), .val (.int p2), .val (.int p3), .val (.int p4), .val (.int (2 : Int32)), .val (.int i116), .val (.int i117), .val (.int i118), .val (.int i119), .val (.ref r120), .val (.int i117), .unset] [(.ref r120)])) rfl (by rw [hml]; rfl) (argsL := [(.ref r120)]) (rest := []) (lenOf own_pd15 rfl) rfl (by show 2 * 0 + _ ≤ _; exact Nat.le_of_eq rfl) (hb hby at_93) (fun _ _ => ⟨rfl, e120, (by decide : 4 + 0 ≤ _), (by decide : 12 + 0 ≤ _)⟩)
    dsimp only [Pt.U, Pt.locs, Pt.cells, Pt.slots] at X122 l122 y122 z122 st122 hQ122
    subst l122 y122 z122
    obtain ⟨rfl, M122, e122⟩ := hQ122
    have N122 := Fr.app N120 M122
    refine own_st (S' := T122.setTop (mkF m 96 #[.val (.int p0), .val (.int p1), .val (.int p2), .val (.int p3), .val (.int p4), .val (.int (2 : Int32)), .val (.int i116), .val (.int i117), .val (.int i118), .val (.int i119), .val (.ref r120), .val (.int i117), .unset] [(.ref r120)])) st122 ?_
    refine own_st (S' := T122.setTop (mkF m 102 #[.val (.int p0), .val (.int p1), .val (.int p2), .val (.int p3), .val (.int p4), .val (.int (2 : Int32)), .val (.int i116), .val (.int i117), .val (.int i118), .val (.int i119), .val (.ref r120), .val (.int i117), .val (.ref r120)] [(.ref r120), (.ref r120)])) (fun _ k => XS.astore X122.here hx rfl (hb hby at_96) rfl rfl (l' := #[.val (.int p0), .val (.int p1), .val (.int p2), .val (.int p3), .val (.int p4), .val (.int (2 : Int32)), .val (.int i116), .val (.int i117), .val (.int i118), .val (.int i119), .val (.ref r120), .val (.int i117), .val (.ref r120)]) rfl (XS.aload X122.here hx rfl (hb hby at_98) rfl rfl (XS.aload X122.here hx rfl (hb hby at_100) rfl rfl k))) ?_
    refine own_st (S' := T122.setTop (mkF m 105 #[.val (.int p0), .val (.int p1), .val (.int p2), .val (.int p3), .val (.int p4), .val (.int (2 : Int32)), .val (.int i116), .val (.int i117), .val (.int i118), .val (.int i119), .val (.ref r120), .val (.int i117), .val (.ref r120)] [])) (fun _ k => Jvm.RoadKit.acmp (g := (mkF m 102 #[.val (.int p0), .val (.int p1), .val (.int p2), .val (.int p3), .val (.int p4), .val (.int (2 : Int32)), .val (.int i116), .val (.int i117), .val (.int i118), .val (.int i119), .val (.ref r120), .val (.int i117), .val (.ref r120)] [(.ref r120), (.ref r120)])) X122 hx rfl rfl rfl (pc0 := 102) (pc' := 105) (same := true) rfl (hb hby at_102) rfl (decide_eq_true rfl) (by decide) (by decide) k) ?_
    refine own_st (S' := T122.setTop (mkF m 107 #[.val (.int p0), .val (.int p1), .val (.int p2), .val (.int p3), .val (.int p4), .val (.int (2 : Int32)), .val (.int i116), .val (.int i117), .val (.int i118), .val (.int i119), .val (.ref r120), .val (.int i117), .val (.ref r120)] [(.ref r120)])) (fun _ k => XS.aload X122.here hx rfl (hb hby at_105) rfl rfl k) ?_
    have S123 : Sta Z h120 "java/lang/String" "COMPACT_STRINGS" "Z" (.int G1) := (S1.ext XO121.2)
    obtain ⟨cq124, kq124, q124a, q124b, q124c⟩ := isOf hZ e122 Y120.exa
    obtain ⟨_, _, ⟨T124, L124, k124, n124⟩, -, X124, ⟨Lc124, hQ124, l124, y124, z124⟩, st124⟩ := X122.virtualBack hx (y := (⟨"java/lang/String", "length", "()I"⟩ : MethodName)) (z := (⟨"java/lang/String", "length", "()I"⟩ : MethodName)) hown (mvT hZ (hw _ own_w44)) (mvT hZ (hw _ own_w45)) (notFace_of_selects (args := #[]) (mvT hZ (hw _ own_w47))) (mvT hZ (hw _ own_w47)) (mvT hZ (hw _ own_w46)) (by decide) (own_lenB (W := 0) hZ hw Y120 S123 P1 (by decide) (by decide)) q124a q124c (g := (mkF m 107 #[.val (.int p0), .val (.int p1), .val (.int p2), .val (.int p3), .val (.int p4), .val (.int (2 : Int32)), .val (.int i116), .val (.int i117), .val (.int i118), .val (.int i119), .val (.ref r120), .val (.int i117), .val (.ref r120)] [(.ref r120)])) rfl (by rw [hml]; rfl) (Steps.refl _) (argsL := []) (rest := []) (lenOf own_pd16 rfl) rfl (by show 2 * 0 + _ ≤ _; exact Nat.le_of_eq rfl) (hb hby at_107) (fun _ _ => ⟨rfl, e122, (by decide : 4 + 0 ≤ _), (by decide : 12 + 0 ≤ _)⟩)
    dsimp only [Pt.U, Pt.locs, Pt.cells, Pt.slots] at X124 l124 y124 z124 st124 hQ124
    subst l124 y124 z124
    obtain ⟨rfl, rfl, e124⟩ := hQ124
    rw [List.append_nil] at X124
    refine own_tr (S' := T124.setTop (mkF m 110 #[.val (.int p0), .val (.int p1), .val (.int p2), .val (.int p3), .val (.int p4), .val (.int (2 : Int32)), .val (.int i116), .val (.int i117), .val (.int i118), .val (.int i119), .val (.ref r120), .val (.int i117), .val (.ref r120)] [(.int (2 : Int32))])) st124 ?_
    refine own_st (S' := T124.setTop (mkF m 118 #[.val (.int p0), .val (.int p1), .val (.int p2), .val (.int p3), .val (.int p4), .val (.int (2 : Int32)), .val (.int i116), .val (.int i117), .val (.int i118), .val (.int i119), .val (.ref r120), .val (.int i117), .val (.ref r120)] [(.int (0 : Int32)), (.ref r120)])) (fun _ k => XS.iload X124.here hx rfl (hb hby at_110) rfl (XS.icmpNo X124.here hx rfl (hb hby at_112) rfl (by decide) (XS.aload X124.here hx rfl (hb hby at_115) rfl rfl (XS.iconst X124.here hx rfl (hb hby at_117) k)))) ?_
    obtain ⟨d125, k125, cd125, N125, vs125, Ex125, Fv125, Fc125, V125, cod125, al125, -⟩ := id Y120
    rcases cod125 with ⟨rfl, rfl, rfl, sm125⟩ | ⟨rfl, rfl, rfl, lg125⟩
    · skip
      have S126 : Sta Z h120 "jdk/internal/util/Preconditions" "SIOOBE_FORMATTER" "Ljava/util/function/BiFunction;" G3 := (S3.ext XO121.2)
      obtain ⟨cq127, kq127, q127a, q127b, q127c⟩ := isOf hZ e124 Y120.exa
      obtain ⟨_, _, ⟨T127, L127, k127, n127⟩, -, X127, ⟨Lc127, hQ127, l127, y127, z127⟩, st127⟩ := X124.virtualBack hx (y := (⟨"java/lang/String", "charAt", "(I)C"⟩ : MethodName)) (z := (⟨"java/lang/String", "charAt", "(I)C"⟩ : MethodName)) hown (mvT hZ (hw _ own_w54)) (mvT hZ (hw _ own_w55)) (notFace_of_selects (args := #[]) (mvT hZ (hw _ own_w57))) (mvT hZ (hw _ own_w57)) (mvT hZ (hw _ own_w56)) (by decide) (own_chB (W := 0) (i := 0) hZ hw Y120 sm125 S123 P1 S126 P3 (Nat.le_of_ble_eq_true rfl) rfl (by decide) (by decide)) q127a q127c (g := (mkF m 118 #[.val (.int p0), .val (.int p1), .val (.int p2), .val (.int p3), .val (.int p4), .val (.int (2 : Int32)), .val (.int i116), .val (.int i117), .val (.int i118), .val (.int i119), .val (.ref r120), .val (.int i117), .val (.ref r120)] [(.int (0 : Int32)), (.ref r120)])) rfl (by rw [hml]; rfl) (Steps.refl _) (argsL := [(.int (0 : Int32))]) (rest := []) (lenOf own_pd17 rfl) rfl (by show 2 * 0 + _ ≤ _; exact Nat.le_of_eq rfl) (hb hby at_118) (fun _ _ => ⟨rfl, e124, (by decide : 4 + 0 ≤ _), (by decide : 12 + 0 ≤ _)⟩)
      dsimp only [Pt.U, Pt.locs, Pt.cells, Pt.slots] at X127 l127 y127 z127 st127 hQ127
      subst l127 y127 z127
      obtain ⟨rfl, rfl, e127⟩ := hQ127
      try rw [List.append_nil] at X127
      refine own_tr (S' := T127.setTop (mkF m 121 #[.val (.int p0), .val (.int p1), .val (.int p2), .val (.int p3), .val (.int p4), .val (.int (2 : Int32)), .val (.int i116), .val (.int i117), .val (.int i118), .val (.int i119), .val (.ref r120), .val (.int i117), .val (.ref r120)] [(.int i116)])) st127 ?_
      refine own_st (S' := T127.setTop (mkF m 130 #[.val (.int p0), .val (.int p1), .val (.int p2), .val (.int p3), .val (.int p4), .val (.int (2 : Int32)), .val (.int i116), .val (.int i117), .val (.int i118), .val (.int i119), .val (.ref r120), .val (.int i117), .val (.ref r120)] [(.int (2 : Int32)), (.ref r120)])) (fun _ k => XS.iload X127.here hx rfl (hb hby at_121) rfl (XS.icmpNo X127.here hx rfl (hb hby at_123) rfl (teq rfl).2 (XS.aload X127.here hx rfl (hb hby at_126) rfl rfl (XS.iload X127.here hx rfl (hb hby at_128) rfl k)))) ?_
      refine own_st (S' := T127.setTop (mkF m 132 #[.val (.int p0), .val (.int p1), .val (.int p2), .val (.int p3), .val (.int p4), .val (.int (2 : Int32)), .val (.int i116), .val (.int i117), .val (.int i118), .val (.int i119), .val (.ref r120), .val (.int i117), .val (.ref r120)] [(.int (1 : Int32)), (.ref r120)])) (fun _ k => XS.iconst X127.here hx rfl (hb hby at_130) (XS.isub X127.here hx rfl (hb hby at_131) rfl k)) ?_
      obtain ⟨cq128, kq128, q128a, q128b, q128c⟩ := isOf hZ e127 Y120.exa
      obtain ⟨_, _, ⟨T128, L128, k128, n128⟩, -, X128, ⟨Lc128, hQ128, l128, y128, z128⟩, st128⟩ := X127.virtualBack hx (y := (⟨"java/lang/String", "charAt", "(I)C"⟩ : MethodName)) (z := (⟨"java/lang/String", "charAt", "(I)C"⟩ : MethodName)) hown (mvT hZ (hw _ own_w54)) (mvT hZ (hw _ own_w55)) (notFace_of_selects (args := #[]) (mvT hZ (hw _ own_w57))) (mvT hZ (hw _ own_w57)) (mvT hZ (hw _ own_w56)) (by decide) (own_chB (W := 0) (i := 1) hZ hw Y120 sm125 S123 P1 S126 P3 (Nat.le_of_ble_eq_true rfl) rfl (by decide) (by decide)) q128a q128c (g := (mkF m 132 #[.val (.int p0), .val (.int p1), .val (.int p2), .val (.int p3), .val (.int p4), .val (.int (2 : Int32)), .val (.int i116), .val (.int i117), .val (.int i118), .val (.int i119), .val (.ref r120), .val (.int i117), .val (.ref r120)] [(.int (1 : Int32)), (.ref r120)])) rfl (by rw [hml]; rfl) (Steps.refl _) (argsL := [(.int (1 : Int32))]) (rest := []) (lenOf own_pd17 rfl) rfl (by show 2 * 0 + _ ≤ _; exact Nat.le_of_eq rfl) (hb hby at_132) (fun _ _ => ⟨rfl, e127, (by decide : 4 + 0 ≤ _), (by decide : 12 + 0 ≤ _)⟩)
      dsimp only [Pt.U, Pt.locs, Pt.cells, Pt.slots] at X128 l128 y128 z128 st128 hQ128
      subst l128 y128 z128
      obtain ⟨rfl, rfl, e128⟩ := hQ128
      try rw [List.append_nil] at X128
      refine own_tr (S' := T128.setTop (mkF m 135 #[.val (.int p0), .val (.int p1), .val (.int p2), .val (.int p3), .val (.int p4), .val (.int (2 : Int32)), .val (.int i116), .val (.int i117), .val (.int i118), .val (.int i119), .val (.ref r120), .val (.int i117), .val (.ref r120)] [(.int i117)])) st128 ?_
      refine own_st (S' := T128.setTop (mkF m 145 #[.val (.int p0), .val (.int p1), .val (.int p2), .val (.int p3), .val (.int p4), .val (.int (2 : Int32)), .val (.int i116), .val (.int i117), .val (.int i118), .val (.int i119), .val (.ref r120), .val (.int i117), .val (.ref r120)] [(.int (1 : Int32))])) (fun _ k => XS.iload X128.here hx rfl (hb hby at_135) rfl (XS.icmpNo X128.here hx rfl (hb hby at_137) rfl (teq rfl).2 (XS.iconst X128.here hx rfl (hb hby at_140) (XS.goto X128.here hx rfl (pc0 := 141) (pc' := 145) rfl (hb hby at_141) (by decide) (by decide) k)))) ?_
      refine own_ret X128 hx Bd.returns hlk rfl (Or.inl ⟨rfl, (by simp), _, rfl⟩) (hb hby at_145) (by decide) (by decide) ?_
      rw [e128]
      exact ⟨rfl, N122⟩
    · skip
      obtain ⟨cq129, kq129, q129a, q129b, q129c⟩ := isOf hZ e124 Y120.exa
      obtain ⟨_, _, ⟨T129, L129, k129, n129⟩, -, X129, ⟨Lc129, hQ129, l129, y129, z129⟩, st129⟩ := X124.virtualBack hx (y := (⟨"java/lang/String", "charAt", "(I)C"⟩ : MethodName)) (z := (⟨"java/lang/String", "charAt", "(I)C"⟩ : MethodName)) hown (mvT hZ (hw _ own_w54)) (mvT hZ (hw _ own_w55)) (notFace_of_selects (args := #[]) (mvT hZ (hw _ own_w57))) (mvT hZ (hw _ own_w57)) (mvT hZ (hw _ own_w56)) (by decide) (backOf (W := 0) (own_rm_sca l Z a0 hw G1 S1 P1 G3 S3 P3 S4 S5 S6 [] r120 d125 (0 : Int32) (0 : Int32) (4 : Int32) (StrChars.lo8 i116) (StrChars.hi8 i116) k125 _ h120 n0 (Nat.le_trans Z0 E120.1) XO121 Y120.exa Fv125 Fc125 V125 (by decide) ⟨by decide, by decide⟩ ⟨by decide, by decide⟩ rfl rfl (by decide) (by decide)) hZ (hw _ own_w58) (hw _ own_w8) (by decide) (by decide)) q129a q129c (g := (mkF m 118 #[.val (.int p0), .val (.int p1), .val (.int p2), .val (.int p3), .val (.int p4), .val (.int (2 : Int32)), .val (.int i116), .val (.int i117), .val (.int i118), .val (.int i119), .val (.ref r120), .val (.int i117), .val (.ref r120)] [(.int (0 : Int32)), (.ref r120)])) rfl (by rw [hml]; rfl) (Steps.refl _) (argsL := [(.int (0 : Int32))]) (rest := []) (lenOf own_pd17 rfl) rfl (by show 2 * 0 + _ ≤ _; exact Nat.le_of_eq rfl) (hb hby at_118) (fun _ _ => ⟨rfl, e124, (by decide : 4 + 0 ≤ _), (by decide : 12 + 0 ≤ _)⟩)
      dsimp only [Pt.U, Pt.locs, Pt.cells, Pt.slots] at X129 l129 y129 z129 st129 hQ129
      subst l129 y129 z129
      obtain ⟨rfl, M129, e129⟩ := hQ129
      have N129 := Fr.app N122 M129
      refine own_tr (S' := T129.setTop (mkF m 121 #[.val (.int p0), .val (.int p1), .val (.int p2), .val (.int p3), .val (.int p4), .val (.int (2 : Int32)), .val (.int i116), .val (.int i117), .val (.int i118), .val (.int i119), .val (.ref r120), .val (.int i117), .val (.ref r120)] [(.int (StrChars.pairCh (StrChars.lo8 i116) (StrChars.hi8 i116)))])) st129 ?_
      rw [StrChars.pair_says (own_chr gi116).1.1 (own_chr gi116).1.2]
      refine own_st (S' := T129.setTop (mkF m 130 #[.val (.int p0), .val (.int p1), .val (.int p2), .val (.int p3), .val (.int p4), .val (.int (2 : Int32)), .val (.int i116), .val (.int i117), .val (.int i118), .val (.int i119), .val (.ref r120), .val (.int i117), .val (.ref r120)] [(.int (2 : Int32)), (.ref r120)])) (fun _ k => XS.iload X129.here hx rfl (hb hby at_121) rfl (XS.icmpNo X129.here hx rfl (hb hby at_123) rfl (teq rfl).2 (XS.aload X129.here hx rfl (hb hby at_126) rfl rfl (XS.iload X129.here hx rfl (hb hby at_128) rfl k)))) ?_
      refine own_st (S' := T129.setTop (mkF m 132 #[.val (.int p0), .val (.int p1), .val (.int p2), .val (.int p3), .val (.int p4), .val (.int (2 : Int32)), .val (.int i116), .val (.int i117), .val (.int i118), .val (.int i119), .val (.ref r120), .val (.int i117), .val (.ref r120)] [(.int (1 : Int32)), (.ref r120)])) (fun _ k => XS.iconst X129.here hx rfl (hb hby at_130) (XS.isub X129.here hx rfl (hb hby at_131) rfl k)) ?_
      obtain ⟨cq130, kq130, q130a, q130b, q130c⟩ := isOf hZ e129 Y120.exa
      obtain ⟨_, _, ⟨T130, L130, k130, n130⟩, -, X130, ⟨Lc130, hQ130, l130, y130, z130⟩, st130⟩ := X129.virtualBack hx (y := (⟨"java/lang/String", "charAt", "(I)C"⟩ : MethodName)) (z := (⟨"java/lang/String", "charAt", "(I)C"⟩ : MethodName)) hown (mvT hZ (hw _ own_w54)) (mvT hZ (hw _ own_w55)) (notFace_of_selects (args := #[]) (mvT hZ (hw _ own_w57))) (mvT hZ (hw _ own_w57)) (mvT hZ (hw _ own_w56)) (by decide) (backOf (W := 0) (own_rm_sca l Z a0 hw G1 S1 P1 G3 S3 P3 S4 S5 S6 [] r120 d125 (1 : Int32) (2 : Int32) (4 : Int32) (StrChars.lo8 i117) (StrChars.hi8 i117) k125 _ h120 n0 (Nat.le_trans Z0 E120.1) XO121 Y120.exa Fv125 Fc125 V125 (by decide) ⟨by decide, by decide⟩ ⟨by decide, by decide⟩ rfl rfl (by decide) (by decide)) hZ (hw _ own_w58) (hw _ own_w8) (by decide) (by decide)) q130a q130c (g := (mkF m 132 #[.val (.int p0), .val (.int p1), .val (.int p2), .val (.int p3), .val (.int p4), .val (.int (2 : Int32)), .val (.int i116), .val (.int i117), .val (.int i118), .val (.int i119), .val (.ref r120), .val (.int i117), .val (.ref r120)] [(.int (1 : Int32)), (.ref r120)])) rfl (by rw [hml]; rfl) (Steps.refl _) (argsL := [(.int (1 : Int32))]) (rest := []) (lenOf own_pd17 rfl) rfl (by show 2 * 0 + _ ≤ _; exact Nat.le_of_eq rfl) (hb hby at_132) (fun _ _ => ⟨rfl, e129, (by decide : 4 + 0 ≤ _), (by decide : 12 + 0 ≤ _)⟩)
      dsimp only [Pt.U, Pt.locs, Pt.cells, Pt.slots] at X130 l130 y130 z130 st130 hQ130
      subst l130 y130 z130
      obtain ⟨rfl, M130, e130⟩ := hQ130
      have N130 := Fr.app N129 M130
      refine own_tr (S' := T130.setTop (mkF m 135 #[.val (.int p0), .val (.int p1), .val (.int p2), .val (.int p3), .val (.int p4), .val (.int (2 : Int32)), .val (.int i116), .val (.int i117), .val (.int i118), .val (.int i119), .val (.ref r120), .val (.int i117), .val (.ref r120)] [(.int (StrChars.pairCh (StrChars.lo8 i117) (StrChars.hi8 i117)))])) st130 ?_
      rw [StrChars.pair_says (own_chr gi117).1.1 (own_chr gi117).1.2]
      refine own_st (S' := T130.setTop (mkF m 145 #[.val (.int p0), .val (.int p1), .val (.int p2), .val (.int p3), .val (.int p4), .val (.int (2 : Int32)), .val (.int i116), .val (.int i117), .val (.int i118), .val (.int i119), .val (.ref r120), .val (.int i117), .val (.ref r120)] [(.int (1 : Int32))])) (fun _ k => XS.iload X130.here hx rfl (hb hby at_135) rfl (XS.icmpNo X130.here hx rfl (hb hby at_137) rfl (teq rfl).2 (XS.iconst X130.here hx rfl (hb hby at_140) (XS.goto X130.here hx rfl (pc0 := 141) (pc' := 145) rfl (hb hby at_141) (by decide) (by decide) k)))) ?_
      refine own_ret X130 hx Bd.returns hlk rfl (Or.inl ⟨rfl, (by simp), _, rfl⟩) (hb hby at_145) (by decide) (by decide) ?_
      rw [e130]
      exact ⟨rfl, N130⟩
  · rw [hf, show (2 : Int32) + (1 : Int32) = (3 : Int32) from by decide]
    refine own_st (S' := s₁.setTop (mkF m 8 #[.val (.int p0), .val (.int p1), .val (.int p2), .val (.int p3), .val (.int p4), .val (.int (3 : Int32)), .unset, .unset, .unset, .unset, .unset, .unset, .unset] [(.int p1)])) (fun _ k => XS.istore X0.here hx rfl (hb hby at_5) rfl (l' := #[.val (.int p0), .val (.int p1), .val (.int p2), .val (.int p3), .val (.int p4), .val (.int (3 : Int32)), .unset, .unset, .unset, .unset, .unset, .unset, .unset]) rfl (XS.iloadN X0.here hx rfl (hb hby at_7) rfl k)) ?_
    refine own_st (S' := s₁.setTop (mkF m 10 #[.val (.int p0), .val (.int p1), .val (.int p2), .val (.int p3), .val (.int p4), .val (.int (3 : Int32)), .unset, .unset, .unset, .unset, .unset, .unset, .unset] [(.int (65535 : Int32)), (.int p1)])) (X0.ldcInt hx hown (mvT hZ (hw _ own_w0)) (g := (mkF m 8 #[.val (.int p0), .val (.int p1), .val (.int p2), .val (.int p3), .val (.int p4), .val (.int (3 : Int32)), .unset, .unset, .unset, .unset, .unset, .unset, .unset] [(.int p1)])) rfl (hb hby at_8)) ?_
    refine own_st (S' := s₁.setTop (mkF m 14 #[.val (.int p0), .val (.int p1), .val (.int p2), .val (.int p3), .val (.int p4), .val (.int (3 : Int32)), .val (.int ((p1 &&& (65535 : Int32)).toUInt32.toUInt16.toUInt32.toInt32)), .unset, .unset, .unset, .unset, .unset, .unset] [])) (fun _ k => XS.iand X0.here hx rfl (hb hby at_10) rfl (XS.i2c X0.here hx rfl (hb hby at_11) rfl (XS.istore X0.here hx rfl (hb hby at_12) rfl (l' := #[.val (.int p0), .val (.int p1), .val (.int p2), .val (.int p3), .val (.int p4), .val (.int (3 : Int32)), .val (.int ((p1 &&& (65535 : Int32)).toUInt32.toUInt16.toUInt32.toInt32)), .unset, .unset, .unset, .unset, .unset, .unset]) rfl k))) ?_
    generalize gi131 : ((p1 &&& (65535 : Int32)).toUInt32.toUInt16.toUInt32.toInt32) = i131
    refine own_st (S' := s₁.setTop (mkF m 15 #[.val (.int p0), .val (.int p1), .val (.int p2), .val (.int p3), .val (.int p4), .val (.int (3 : Int32)), .val (.int i131), .unset, .unset, .unset, .unset, .unset, .unset] [(.int p2)])) (fun _ k => XS.iloadN X0.here hx rfl (hb hby at_14) rfl k) ?_
    refine own_st (S' := s₁.setTop (mkF m 17 #[.val (.int p0), .val (.int p1), .val (.int p2), .val (.int p3), .val (.int p4), .val (.int (3 : Int32)), .val (.int i131), .unset, .unset, .unset, .unset, .unset, .unset] [(.int (65535 : Int32)), (.int p2)])) (X0.ldcInt hx hown (mvT hZ (hw _ own_w0)) (g := (mkF m 15 #[.val (.int p0), .val (.int p1), .val (.int p2), .val (.int p3), .val (.int p4), .val (.int (3 : Int32)), .val (.int i131), .unset, .unset, .unset, .unset, .unset, .unset] [(.int p2)])) rfl (hb hby at_15)) ?_
    refine own_st (S' := s₁.setTop (mkF m 21 #[.val (.int p0), .val (.int p1), .val (.int p2), .val (.int p3), .val (.int p4), .val (.int (3 : Int32)), .val (.int i131), .val (.int ((p2 &&& (65535 : Int32)).toUInt32.toUInt16.toUInt32.toInt32)), .unset, .unset, .unset, .unset, .unset] [])) (fun _ k => XS.iand X0.here hx rfl (hb hby at_17) rfl (XS.i2c X0.here hx rfl (hb hby at_18) rfl (XS.istore X0.here hx rfl (hb hby at_19) rfl (l' := #[.val (.int p0), .val (.int p1), .val (.int p2), .val (.int p3), .val (.int p4), .val (.int (3 : Int32)), .val (.int i131), .val (.int ((p2 &&& (65535 : Int32)).toUInt32.toUInt16.toUInt32.toInt32)), .unset, .unset, .unset, .unset, .unset]) rfl k))) ?_
    generalize gi132 : ((p2 &&& (65535 : Int32)).toUInt32.toUInt16.toUInt32.toInt32) = i132
    refine own_st (S' := s₁.setTop (mkF m 22 #[.val (.int p0), .val (.int p1), .val (.int p2), .val (.int p3), .val (.int p4), .val (.int (3 : Int32)), .val (.int i131), .val (.int i132), .unset, .unset, .unset, .unset, .unset] [(.int p3)])) (fun _ k => XS.iloadN X0.here hx rfl (hb hby at_21) rfl k) ?_
    refine own_st (S' := s₁.setTop (mkF m 24 #[.val (.int p0), .val (.int p1), .val (.int p2), .val (.int p3), .val (.int p4), .val (.int (3 : Int32)), .val (.int i131), .val (.int i132), .unset, .unset, .unset, .unset, .unset] [(.int (65535 : Int32)), (.int p3)])) (X0.ldcInt hx hown (mvT hZ (hw _ own_w0)) (g := (mkF m 22 #[.val (.int p0), .val (.int p1), .val (.int p2), .val (.int p3), .val (.int p4), .val (.int (3 : Int32)), .val (.int i131), .val (.int i132), .unset, .unset, .unset, .unset, .unset] [(.int p3)])) rfl (hb hby at_22)) ?_
    refine own_st (S' := s₁.setTop (mkF m 28 #[.val (.int p0), .val (.int p1), .val (.int p2), .val (.int p3), .val (.int p4), .val (.int (3 : Int32)), .val (.int i131), .val (.int i132), .val (.int ((p3 &&& (65535 : Int32)).toUInt32.toUInt16.toUInt32.toInt32)), .unset, .unset, .unset, .unset] [])) (fun _ k => XS.iand X0.here hx rfl (hb hby at_24) rfl (XS.i2c X0.here hx rfl (hb hby at_25) rfl (XS.istore X0.here hx rfl (hb hby at_26) rfl (l' := #[.val (.int p0), .val (.int p1), .val (.int p2), .val (.int p3), .val (.int p4), .val (.int (3 : Int32)), .val (.int i131), .val (.int i132), .val (.int ((p3 &&& (65535 : Int32)).toUInt32.toUInt16.toUInt32.toInt32)), .unset, .unset, .unset, .unset]) rfl k))) ?_
    generalize gi133 : ((p3 &&& (65535 : Int32)).toUInt32.toUInt16.toUInt32.toInt32) = i133
    refine own_st (S' := s₁.setTop (mkF m 30 #[.val (.int p0), .val (.int p1), .val (.int p2), .val (.int p3), .val (.int p4), .val (.int (3 : Int32)), .val (.int i131), .val (.int i132), .val (.int i133), .unset, .unset, .unset, .unset] [(.int p4)])) (fun _ k => XS.iload X0.here hx rfl (hb hby at_28) rfl k) ?_
    refine own_st (S' := s₁.setTop (mkF m 32 #[.val (.int p0), .val (.int p1), .val (.int p2), .val (.int p3), .val (.int p4), .val (.int (3 : Int32)), .val (.int i131), .val (.int i132), .val (.int i133), .unset, .unset, .unset, .unset] [(.int (65535 : Int32)), (.int p4)])) (X0.ldcInt hx hown (mvT hZ (hw _ own_w0)) (g := (mkF m 30 #[.val (.int p0), .val (.int p1), .val (.int p2), .val (.int p3), .val (.int p4), .val (.int (3 : Int32)), .val (.int i131), .val (.int i132), .val (.int i133), .unset, .unset, .unset, .unset] [(.int p4)])) rfl (hb hby at_30)) ?_
    refine own_st (S' := s₁.setTop (mkF m 36 #[.val (.int p0), .val (.int p1), .val (.int p2), .val (.int p3), .val (.int p4), .val (.int (3 : Int32)), .val (.int i131), .val (.int i132), .val (.int i133), .val (.int ((p4 &&& (65535 : Int32)).toUInt32.toUInt16.toUInt32.toInt32)), .unset, .unset, .unset] [])) (fun _ k => XS.iand X0.here hx rfl (hb hby at_32) rfl (XS.i2c X0.here hx rfl (hb hby at_33) rfl (XS.istore X0.here hx rfl (hb hby at_34) rfl (l' := #[.val (.int p0), .val (.int p1), .val (.int p2), .val (.int p3), .val (.int p4), .val (.int (3 : Int32)), .val (.int i131), .val (.int i132), .val (.int i133), .val (.int ((p4 &&& (65535 : Int32)).toUInt32.toUInt16.toUInt32.toInt32)), .unset, .unset, .unset]) rfl k))) ?_
    generalize gi134 : ((p4 &&& (65535 : Int32)).toUInt32.toUInt16.toUInt32.toInt32) = i134
    refine own_st (S' := s₁.setTop (mkF m 44 #[.val (.int p0), .val (.int p1), .val (.int p2), .val (.int p3), .val (.int p4), .val (.int (3 : Int32)), .val (.int i131), .val (.int i132), .val (.int i133), .val (.int i134), .unset, .unset, .unset] [(.int i133), (.int i132), (.int i131), (.int (3 : Int32))])) (fun _ k => XS.iload X0.here hx rfl (hb hby at_36) rfl (XS.iload X0.here hx rfl (hb hby at_38) rfl (XS.iload X0.here hx rfl (hb hby at_40) rfl (XS.iload X0.here hx rfl (hb hby at_42) rfl k)))) ?_
    refine own_st (S' := s₁.setTop (mkF m 46 #[.val (.int p0), .val (.int p1), .val (.int p2), .val (.int p3), .val (.int p4), .val (.int (3 : Int32)), .val (.int i131), .val (.int i132), .val (.int i133), .val (.int i134), .unset, .unset, .unset] [(.int i134), (.int i133), (.int i132), (.int i131), (.int (3 : Int32))])) (fun _ k => XS.iload X0.here hx rfl (hb hby at_44) rfl k) ?_
    obtain ⟨_, _, ⟨T135, L135, k135, n135⟩, -, X135, ⟨Lc135, hQ135, l135, y135, z135⟩, st135⟩ := Jvm.LawKit.callS X0 hx (y := (⟨"com/example/sault/sault/ArgumentsLockNamePinLaw", "make", "(ICCCC)Ljava/lang/String;"⟩ : MethodName)) hown (mvT hZ (hw _ own_w1)) (mvT hZ (hw _ own_w2)) (mvT hZ (hw _ own_w3)) (mvT hZ (hw _ own_w4)) (by decide) (backOf (W := 0) (own_rm_make3 l Z a0 hw G1 S1 P1 G3 S3 P3 S4 S5 S6 [] i131 i132 i133 i134 h0 n0 (Nat.le_trans Z0 (Nat.le_refl _)) XO (own_chr gi131).1 (own_chr gi131).2 (own_chr gi132).1 (own_chr gi132).2 (own_chr gi133).1 (own_chr gi133).2 (own_chr gi134).1 (own_chr gi134).2) hZ (hw _ own_w4) (hw _ own_w3) (by decide) (by decide)) (g := (mkF m 46 #[.val (.int p0), .val (.int p1), .val (.int p2), .val (.int p3), .val (.int p4), .val (.int (3 : Int32)), .val (.int i131), .val (.int i132), .val (.int i133), .val (.int i134), .unset, .unset, .unset] [(.int i134), (.int i133), (.int i132), (.int i131), (.int (3 : Int32))])) rfl (by rw [hml]; rfl) (argsL := [(.int (3 : Int32)), (.int i131), (.int i132), (.int i133), (.int i134)]) (rest := []) (lenOf own_pd14 rfl) rfl (by show 2 * 0 + _ ≤ _; exact Nat.le_of_eq rfl) (hb hby at_46) (fun _ _ => ⟨rfl, e0, (by decide : 0 + 4 ≤ _), (by decide : 0 + 16 ≤ _)⟩)
    dsimp only [Pt.U, Pt.locs, Pt.cells, Pt.slots] at X135 l135 y135 z135 st135 hQ135
    subst l135 y135 z135
    obtain ⟨r135, rfl, M135, E135, g135, Y135⟩ := hQ135
    have N135 := Fr.app N0 M135
    obtain ⟨h135, e135⟩ : ∃ z, T135.heap = z := ⟨_, rfl⟩
    rw [e135] at E135 Y135
    refine own_st (S' := T135.setTop (mkF m 49 #[.val (.int p0), .val (.int p1), .val (.int p2), .val (.int p3), .val (.int p4), .val (.int (3 : Int32)), .val (.int i131), .val (.int i132), .val (.int i133), .val (.int i134), .unset, .unset, .unset] [(.ref r135)])) st135 ?_
    refine own_st (S' := T135.setTop (mkF m 57 #[.val (.int p0), .val (.int p1), .val (.int p2), .val (.int p3), .val (.int p4), .val (.int (3 : Int32)), .val (.int i131), .val (.int i132), .val (.int i133), .val (.int i134), .val (.ref r135), .val (.int i131), .unset] [(.int (3 : Int32))])) (fun _ k => XS.astore X135.here hx rfl (hb hby at_49) rfl rfl (l' := #[.val (.int p0), .val (.int p1), .val (.int p2), .val (.int p3), .val (.int p4), .val (.int (3 : Int32)), .val (.int i131), .val (.int i132), .val (.int i133), .val (.int i134), .val (.ref r135), .unset, .unset]) rfl (XS.iload X135.here hx rfl (hb hby at_51) rfl (XS.istore X135.here hx rfl (hb hby at_53) rfl (l' := #[.val (.int p0), .val (.int p1), .val (.int p2), .val (.int p3), .val (.int p4), .val (.int (3 : Int32)), .val (.int i131), .val (.int i132), .val (.int i133), .val (.int i134), .val (.ref r135), .val (.int i131), .unset]) rfl (XS.iload X135.here hx rfl (hb hby at_55) rfl k)))) ?_
    refine own_st (S' := T135.setTop (mkF m 71 #[.val (.int p0), .val (.int p1), .val (.int p2), .val (.int p3), .val (.int p4), .val (.int (3 : Int32)), .val (.int i131), .val (.int i132), .val (.int i133), .val (.int i134), .val (.ref r135), .val (.int i131), .unset] [(.int (3 : Int32)), (.int (3 : Int32))])) (fun _ k => XS.iconst X135.here hx rfl (hb hby at_57) (XS.icmpYes X135.here hx rfl (pc0 := 58) (pc' := 68) rfl (hb hby at_58) rfl (by decide) (by decide) (by decide) (XS.iload X135.here hx rfl (hb hby at_68) rfl (XS.iconst X135.here hx rfl (hb hby at_70) k)))) ?_
    refine own_st (S' := T135.setTop (mkF m 91 #[.val (.int p0), .val (.int p1), .val (.int p2), .val (.int p3), .val (.int p4), .val (.int (3 : Int32)), .val (.int i131), .val (.int i132), .val (.int i133), .val (.int i134), .val (.ref r135), .val (.int i133), .unset] [])) (fun _ k => XS.icmpNo X135.here hx rfl (hb hby at_71) rfl (by decide) (XS.iload X135.here hx rfl (hb hby at_74) rfl (XS.istore X135.here hx rfl (hb hby at_76) rfl (l' := #[.val (.int p0), .val (.int p1), .val (.int p2), .val (.int p3), .val (.int p4), .val (.int (3 : Int32)), .val (.int i131), .val (.int i132), .val (.int i133), .val (.int i134), .val (.ref r135), .val (.int i133), .unset]) rfl (XS.goto X135.here hx rfl (pc0 := 78) (pc' := 91) rfl (hb hby at_78) (by decide) (by decide) k)))) ?_
    refine own_st (S' := T135.setTop (mkF m 93 #[.val (.int p0), .val (.int p1), .val (.int p2), .val (.int p3), .val (.int p4), .val (.int (3 : Int32)), .val (.int i131), .val (.int i132), .val (.int i133), .val (.int i134), .val (.ref r135), .val (.int i133), .unset] [(.ref r135)])) (fun _ k => XS.aload X135.here hx rfl (hb hby at_91) rfl rfl k) ?_
    have XO136 : Old Z n0 h135 := (XO.ext E135)
    obtain ⟨_, _, ⟨T137, L137, k137, n137⟩, -, X137, ⟨Lc137, hQ137, l137, y137, z137⟩, st137⟩ := Jvm.LawKit.callS X135 hx (y := (⟨"com/example/sault/sault/Arguments", "lockName", "(Ljava/lang/String;)Ljava/lang/String;"⟩ : MethodName)) hown (mvT hZ (hw _ own_w35)) (mvT hZ (hw _ own_w36)) (mvT hZ (hw _ own_w37)) (mvT hZ (hw _ own_w38)) (by decide) (backOf (W := 0) (own_rm_lock l Z a0 hw G1 S1 P1 G3 S3 P3 S4 S5 S6 [] r135 _ h135 n0 (Nat.le_trans Z0 E135.1) XO136 Y135 (by simp)) hZ (hw _ own_w38) (hw _ own_w37) (by decide) (by decide)) (g := (mkF m 93 #[.val (.int p0), .val (.int p1), .val (.int p2), .val (.int p3), .val (.int p4), .val (.int (3 : Int32)), .val (.int i131), .val (.int i132), .val (.int i133), .val (.int i134), .val (.ref r135), .val (.int i133), .unset] [(.ref r135)])) rfl (by rw [hml]; rfl) (argsL := [(.ref r135)]) (rest := []) (lenOf own_pd15 rfl) rfl (by show 2 * 0 + _ ≤ _; exact Nat.le_of_eq rfl) (hb hby at_93) (fun _ _ => ⟨rfl, e135, (by decide : 4 + 0 ≤ _), (by decide : 16 + 0 ≤ _)⟩)
    dsimp only [Pt.U, Pt.locs, Pt.cells, Pt.slots] at X137 l137 y137 z137 st137 hQ137
    subst l137 y137 z137
    obtain ⟨rfl, M137, e137⟩ := hQ137
    have N137 := Fr.app N135 M137
    refine own_st (S' := T137.setTop (mkF m 96 #[.val (.int p0), .val (.int p1), .val (.int p2), .val (.int p3), .val (.int p4), .val (.int (3 : Int32)), .val (.int i131), .val (.int i132), .val (.int i133), .val (.int i134), .val (.ref r135), .val (.int i133), .unset] [(.ref r135)])) st137 ?_
    refine own_st (S' := T137.setTop (mkF m 102 #[.val (.int p0), .val (.int p1), .val (.int p2), .val (.int p3), .val (.int p4), .val (.int (3 : Int32)), .val (.int i131), .val (.int i132), .val (.int i133), .val (.int i134), .val (.ref r135), .val (.int i133), .val (.ref r135)] [(.ref r135), (.ref r135)])) (fun _ k => XS.astore X137.here hx rfl (hb hby at_96) rfl rfl (l' := #[.val (.int p0), .val (.int p1), .val (.int p2), .val (.int p3), .val (.int p4), .val (.int (3 : Int32)), .val (.int i131), .val (.int i132), .val (.int i133), .val (.int i134), .val (.ref r135), .val (.int i133), .val (.ref r135)]) rfl (XS.aload X137.here hx rfl (hb hby at_98) rfl rfl (XS.aload X137.here hx rfl (hb hby at_100) rfl rfl k))) ?_
    refine own_st (S' := T137.setTop (mkF m 105 #[.val (.int p0), .val (.int p1), .val (.int p2), .val (.int p3), .val (.int p4), .val (.int (3 : Int32)), .val (.int i131), .val (.int i132), .val (.int i133), .val (.int i134), .val (.ref r135), .val (.int i133), .val (.ref r135)] [])) (fun _ k => Jvm.RoadKit.acmp (g := (mkF m 102 #[.val (.int p0), .val (.int p1), .val (.int p2), .val (.int p3), .val (.int p4), .val (.int (3 : Int32)), .val (.int i131), .val (.int i132), .val (.int i133), .val (.int i134), .val (.ref r135), .val (.int i133), .val (.ref r135)] [(.ref r135), (.ref r135)])) X137 hx rfl rfl rfl (pc0 := 102) (pc' := 105) (same := true) rfl (hb hby at_102) rfl (decide_eq_true rfl) (by decide) (by decide) k) ?_
    refine own_st (S' := T137.setTop (mkF m 107 #[.val (.int p0), .val (.int p1), .val (.int p2), .val (.int p3), .val (.int p4), .val (.int (3 : Int32)), .val (.int i131), .val (.int i132), .val (.int i133), .val (.int i134), .val (.ref r135), .val (.int i133), .val (.ref r135)] [(.ref r135)])) (fun _ k => XS.aload X137.here hx rfl (hb hby at_105) rfl rfl k) ?_
    have S138 : Sta Z h135 "java/lang/String" "COMPACT_STRINGS" "Z" (.int G1) := (S1.ext XO136.2)
    obtain ⟨cq139, kq139, q139a, q139b, q139c⟩ := isOf hZ e137 Y135.exa
    obtain ⟨_, _, ⟨T139, L139, k139, n139⟩, -, X139, ⟨Lc139, hQ139, l139, y139, z139⟩, st139⟩ := X137.virtualBack hx (y := (⟨"java/lang/String", "length", "()I"⟩ : MethodName)) (z := (⟨"java/lang/String", "length", "()I"⟩ : MethodName)) hown (mvT hZ (hw _ own_w44)) (mvT hZ (hw _ own_w45)) (notFace_of_selects (args := #[]) (mvT hZ (hw _ own_w47))) (mvT hZ (hw _ own_w47)) (mvT hZ (hw _ own_w46)) (by decide) (own_lenB (W := 0) hZ hw Y135 S138 P1 (by decide) (by decide)) q139a q139c (g := (mkF m 107 #[.val (.int p0), .val (.int p1), .val (.int p2), .val (.int p3), .val (.int p4), .val (.int (3 : Int32)), .val (.int i131), .val (.int i132), .val (.int i133), .val (.int i134), .val (.ref r135), .val (.int i133), .val (.ref r135)] [(.ref r135)])) rfl (by rw [hml]; rfl) (Steps.refl _) (argsL := []) (rest := []) (lenOf own_pd16 rfl) rfl (by show 2 * 0 + _ ≤ _; exact Nat.le_of_eq rfl) (hb hby at_107) (fun _ _ => ⟨rfl, e137, (by decide : 4 + 0 ≤ _), (by decide : 16 + 0 ≤ _)⟩)
    dsimp only [Pt.U, Pt.locs, Pt.cells, Pt.slots] at X139 l139 y139 z139 st139 hQ139
    subst l139 y139 z139
    obtain ⟨rfl, rfl, e139⟩ := hQ139
    rw [List.append_nil] at X139
    refine own_tr (S' := T139.setTop (mkF m 110 #[.val (.int p0), .val (.int p1), .val (.int p2), .val (.int p3), .val (.int p4), .val (.int (3 : Int32)), .val (.int i131), .val (.int i132), .val (.int i133), .val (.int i134), .val (.ref r135), .val (.int i133), .val (.ref r135)] [(.int (3 : Int32))])) st139 ?_
    refine own_st (S' := T139.setTop (mkF m 118 #[.val (.int p0), .val (.int p1), .val (.int p2), .val (.int p3), .val (.int p4), .val (.int (3 : Int32)), .val (.int i131), .val (.int i132), .val (.int i133), .val (.int i134), .val (.ref r135), .val (.int i133), .val (.ref r135)] [(.int (0 : Int32)), (.ref r135)])) (fun _ k => XS.iload X139.here hx rfl (hb hby at_110) rfl (XS.icmpNo X139.here hx rfl (hb hby at_112) rfl (by decide) (XS.aload X139.here hx rfl (hb hby at_115) rfl rfl (XS.iconst X139.here hx rfl (hb hby at_117) k)))) ?_
    obtain ⟨d140, k140, cd140, N140, vs140, Ex140, Fv140, Fc140, V140, cod140, al140, -⟩ := id Y135
    rcases cod140 with ⟨rfl, rfl, rfl, sm140⟩ | ⟨rfl, rfl, rfl, lg140⟩
    · skip
      have S141 : Sta Z h135 "jdk/internal/util/Preconditions" "SIOOBE_FORMATTER" "Ljava/util/function/BiFunction;" G3 := (S3.ext XO136.2)
      obtain ⟨cq142, kq142, q142a, q142b, q142c⟩ := isOf hZ e139 Y135.exa
      obtain ⟨_, _, ⟨T142, L142, k142, n142⟩, -, X142, ⟨Lc142, hQ142, l142, y142, z142⟩, st142⟩ := X139.virtualBack hx (y := (⟨"java/lang/String", "charAt", "(I)C"⟩ : MethodName)) (z := (⟨"java/lang/String", "charAt", "(I)C"⟩ : MethodName)) hown (mvT hZ (hw _ own_w54)) (mvT hZ (hw _ own_w55)) (notFace_of_selects (args := #[]) (mvT hZ (hw _ own_w57))) (mvT hZ (hw _ own_w57)) (mvT hZ (hw _ own_w56)) (by decide) (own_chB (W := 0) (i := 0) hZ hw Y135 sm140 S138 P1 S141 P3 (Nat.le_of_ble_eq_true rfl) rfl (by decide) (by decide)) q142a q142c (g := (mkF m 118 #[.val (.int p0), .val (.int p1), .val (.int p2), .val (.int p3), .val (.int p4), .val (.int (3 : Int32)), .val (.int i131), .val (.int i132), .val (.int i133), .val (.int i134), .val (.ref r135), .val (.int i133), .val (.ref r135)] [(.int (0 : Int32)), (.ref r135)])) rfl (by rw [hml]; rfl) (Steps.refl _) (argsL := [(.int (0 : Int32))]) (rest := []) (lenOf own_pd17 rfl) rfl (by show 2 * 0 + _ ≤ _; exact Nat.le_of_eq rfl) (hb hby at_118) (fun _ _ => ⟨rfl, e139, (by decide : 4 + 0 ≤ _), (by decide : 16 + 0 ≤ _)⟩)
      dsimp only [Pt.U, Pt.locs, Pt.cells, Pt.slots] at X142 l142 y142 z142 st142 hQ142
      subst l142 y142 z142
      obtain ⟨rfl, rfl, e142⟩ := hQ142
      try rw [List.append_nil] at X142
      refine own_tr (S' := T142.setTop (mkF m 121 #[.val (.int p0), .val (.int p1), .val (.int p2), .val (.int p3), .val (.int p4), .val (.int (3 : Int32)), .val (.int i131), .val (.int i132), .val (.int i133), .val (.int i134), .val (.ref r135), .val (.int i133), .val (.ref r135)] [(.int i131)])) st142 ?_
      refine own_st (S' := T142.setTop (mkF m 130 #[.val (.int p0), .val (.int p1), .val (.int p2), .val (.int p3), .val (.int p4), .val (.int (3 : Int32)), .val (.int i131), .val (.int i132), .val (.int i133), .val (.int i134), .val (.ref r135), .val (.int i133), .val (.ref r135)] [(.int (3 : Int32)), (.ref r135)])) (fun _ k => XS.iload X142.here hx rfl (hb hby at_121) rfl (XS.icmpNo X142.here hx rfl (hb hby at_123) rfl (teq rfl).2 (XS.aload X142.here hx rfl (hb hby at_126) rfl rfl (XS.iload X142.here hx rfl (hb hby at_128) rfl k)))) ?_
      refine own_st (S' := T142.setTop (mkF m 132 #[.val (.int p0), .val (.int p1), .val (.int p2), .val (.int p3), .val (.int p4), .val (.int (3 : Int32)), .val (.int i131), .val (.int i132), .val (.int i133), .val (.int i134), .val (.ref r135), .val (.int i133), .val (.ref r135)] [(.int (2 : Int32)), (.ref r135)])) (fun _ k => XS.iconst X142.here hx rfl (hb hby at_130) (XS.isub X142.here hx rfl (hb hby at_131) rfl k)) ?_
      obtain ⟨cq143, kq143, q143a, q143b, q143c⟩ := isOf hZ e142 Y135.exa
      obtain ⟨_, _, ⟨T143, L143, k143, n143⟩, -, X143, ⟨Lc143, hQ143, l143, y143, z143⟩, st143⟩ := X142.virtualBack hx (y := (⟨"java/lang/String", "charAt", "(I)C"⟩ : MethodName)) (z := (⟨"java/lang/String", "charAt", "(I)C"⟩ : MethodName)) hown (mvT hZ (hw _ own_w54)) (mvT hZ (hw _ own_w55)) (notFace_of_selects (args := #[]) (mvT hZ (hw _ own_w57))) (mvT hZ (hw _ own_w57)) (mvT hZ (hw _ own_w56)) (by decide) (own_chB (W := 0) (i := 2) hZ hw Y135 sm140 S138 P1 S141 P3 (Nat.le_of_ble_eq_true rfl) rfl (by decide) (by decide)) q143a q143c (g := (mkF m 132 #[.val (.int p0), .val (.int p1), .val (.int p2), .val (.int p3), .val (.int p4), .val (.int (3 : Int32)), .val (.int i131), .val (.int i132), .val (.int i133), .val (.int i134), .val (.ref r135), .val (.int i133), .val (.ref r135)] [(.int (2 : Int32)), (.ref r135)])) rfl (by rw [hml]; rfl) (Steps.refl _) (argsL := [(.int (2 : Int32))]) (rest := []) (lenOf own_pd17 rfl) rfl (by show 2 * 0 + _ ≤ _; exact Nat.le_of_eq rfl) (hb hby at_132) (fun _ _ => ⟨rfl, e142, (by decide : 4 + 0 ≤ _), (by decide : 16 + 0 ≤ _)⟩)
      dsimp only [Pt.U, Pt.locs, Pt.cells, Pt.slots] at X143 l143 y143 z143 st143 hQ143
      subst l143 y143 z143
      obtain ⟨rfl, rfl, e143⟩ := hQ143
      try rw [List.append_nil] at X143
      refine own_tr (S' := T143.setTop (mkF m 135 #[.val (.int p0), .val (.int p1), .val (.int p2), .val (.int p3), .val (.int p4), .val (.int (3 : Int32)), .val (.int i131), .val (.int i132), .val (.int i133), .val (.int i134), .val (.ref r135), .val (.int i133), .val (.ref r135)] [(.int i133)])) st143 ?_
      refine own_st (S' := T143.setTop (mkF m 145 #[.val (.int p0), .val (.int p1), .val (.int p2), .val (.int p3), .val (.int p4), .val (.int (3 : Int32)), .val (.int i131), .val (.int i132), .val (.int i133), .val (.int i134), .val (.ref r135), .val (.int i133), .val (.ref r135)] [(.int (1 : Int32))])) (fun _ k => XS.iload X143.here hx rfl (hb hby at_135) rfl (XS.icmpNo X143.here hx rfl (hb hby at_137) rfl (teq rfl).2 (XS.iconst X143.here hx rfl (hb hby at_140) (XS.goto X143.here hx rfl (pc0 := 141) (pc' := 145) rfl (hb hby at_141) (by decide) (by decide) k)))) ?_
      refine own_ret X143 hx Bd.returns hlk rfl (Or.inl ⟨rfl, (by simp), _, rfl⟩) (hb hby at_145) (by decide) (by decide) ?_
      rw [e143]
      exact ⟨rfl, N137⟩
    · skip
      obtain ⟨cq144, kq144, q144a, q144b, q144c⟩ := isOf hZ e139 Y135.exa
      obtain ⟨_, _, ⟨T144, L144, k144, n144⟩, -, X144, ⟨Lc144, hQ144, l144, y144, z144⟩, st144⟩ := X139.virtualBack hx (y := (⟨"java/lang/String", "charAt", "(I)C"⟩ : MethodName)) (z := (⟨"java/lang/String", "charAt", "(I)C"⟩ : MethodName)) hown (mvT hZ (hw _ own_w54)) (mvT hZ (hw _ own_w55)) (notFace_of_selects (args := #[]) (mvT hZ (hw _ own_w57))) (mvT hZ (hw _ own_w57)) (mvT hZ (hw _ own_w56)) (by decide) (backOf (W := 0) (own_rm_sca l Z a0 hw G1 S1 P1 G3 S3 P3 S4 S5 S6 [] r135 d140 (0 : Int32) (0 : Int32) (6 : Int32) (StrChars.lo8 i131) (StrChars.hi8 i131) k140 _ h135 n0 (Nat.le_trans Z0 E135.1) XO136 Y135.exa Fv140 Fc140 V140 (by decide) ⟨by decide, by decide⟩ ⟨by decide, by decide⟩ rfl rfl (by decide) (by decide)) hZ (hw _ own_w58) (hw _ own_w8) (by decide) (by decide)) q144a q144c (g := (mkF m 118 #[.val (.int p0), .val (.int p1), .val (.int p2), .val (.int p3), .val (.int p4), .val (.int (3 : Int32)), .val (.int i131), .val (.int i132), .val (.int i133), .val (.int i134), .val (.ref r135), .val (.int i133), .val (.ref r135)] [(.int (0 : Int32)), (.ref r135)])) rfl (by rw [hml]; rfl) (Steps.refl _) (argsL := [(.int (0 : Int32))]) (rest := []) (lenOf own_pd17 rfl) rfl (by show 2 * 0 + _ ≤ _; exact Nat.le_of_eq rfl) (hb hby at_118) (fun _ _ => ⟨rfl, e139, (by decide : 4 + 0 ≤ _), (by decide : 16 + 0 ≤ _)⟩)
      dsimp only [Pt.U, Pt.locs, Pt.cells, Pt.slots] at X144 l144 y144 z144 st144 hQ144
      subst l144 y144 z144
      obtain ⟨rfl, M144, e144⟩ := hQ144
      have N144 := Fr.app N137 M144
      refine own_tr (S' := T144.setTop (mkF m 121 #[.val (.int p0), .val (.int p1), .val (.int p2), .val (.int p3), .val (.int p4), .val (.int (3 : Int32)), .val (.int i131), .val (.int i132), .val (.int i133), .val (.int i134), .val (.ref r135), .val (.int i133), .val (.ref r135)] [(.int (StrChars.pairCh (StrChars.lo8 i131) (StrChars.hi8 i131)))])) st144 ?_
      rw [StrChars.pair_says (own_chr gi131).1.1 (own_chr gi131).1.2]
      refine own_st (S' := T144.setTop (mkF m 130 #[.val (.int p0), .val (.int p1), .val (.int p2), .val (.int p3), .val (.int p4), .val (.int (3 : Int32)), .val (.int i131), .val (.int i132), .val (.int i133), .val (.int i134), .val (.ref r135), .val (.int i133), .val (.ref r135)] [(.int (3 : Int32)), (.ref r135)])) (fun _ k => XS.iload X144.here hx rfl (hb hby at_121) rfl (XS.icmpNo X144.here hx rfl (hb hby at_123) rfl (teq rfl).2 (XS.aload X144.here hx rfl (hb hby at_126) rfl rfl (XS.iload X144.here hx rfl (hb hby at_128) rfl k)))) ?_
      refine own_st (S' := T144.setTop (mkF m 132 #[.val (.int p0), .val (.int p1), .val (.int p2), .val (.int p3), .val (.int p4), .val (.int (3 : Int32)), .val (.int i131), .val (.int i132), .val (.int i133), .val (.int i134), .val (.ref r135), .val (.int i133), .val (.ref r135)] [(.int (2 : Int32)), (.ref r135)])) (fun _ k => XS.iconst X144.here hx rfl (hb hby at_130) (XS.isub X144.here hx rfl (hb hby at_131) rfl k)) ?_
      obtain ⟨cq145, kq145, q145a, q145b, q145c⟩ := isOf hZ e144 Y135.exa
      obtain ⟨_, _, ⟨T145, L145, k145, n145⟩, -, X145, ⟨Lc145, hQ145, l145, y145, z145⟩, st145⟩ := X144.virtualBack hx (y := (⟨"java/lang/String", "charAt", "(I)C"⟩ : MethodName)) (z := (⟨"java/lang/String", "charAt", "(I)C"⟩ : MethodName)) hown (mvT hZ (hw _ own_w54)) (mvT hZ (hw _ own_w55)) (notFace_of_selects (args := #[]) (mvT hZ (hw _ own_w57))) (mvT hZ (hw _ own_w57)) (mvT hZ (hw _ own_w56)) (by decide) (backOf (W := 0) (own_rm_sca l Z a0 hw G1 S1 P1 G3 S3 P3 S4 S5 S6 [] r135 d140 (2 : Int32) (4 : Int32) (6 : Int32) (StrChars.lo8 i133) (StrChars.hi8 i133) k140 _ h135 n0 (Nat.le_trans Z0 E135.1) XO136 Y135.exa Fv140 Fc140 V140 (by decide) ⟨by decide, by decide⟩ ⟨by decide, by decide⟩ rfl rfl (by decide) (by decide)) hZ (hw _ own_w58) (hw _ own_w8) (by decide) (by decide)) q145a q145c (g := (mkF m 132 #[.val (.int p0), .val (.int p1), .val (.int p2), .val (.int p3), .val (.int p4), .val (.int (3 : Int32)), .val (.int i131), .val (.int i132), .val (.int i133), .val (.int i134), .val (.ref r135), .val (.int i133), .val (.ref r135)] [(.int (2 : Int32)), (.ref r135)])) rfl (by rw [hml]; rfl) (Steps.refl _) (argsL := [(.int (2 : Int32))]) (rest := []) (lenOf own_pd17 rfl) rfl (by show 2 * 0 + _ ≤ _; exact Nat.le_of_eq rfl) (hb hby at_132) (fun _ _ => ⟨rfl, e144, (by decide : 4 + 0 ≤ _), (by decide : 16 + 0 ≤ _)⟩)
      dsimp only [Pt.U, Pt.locs, Pt.cells, Pt.slots] at X145 l145 y145 z145 st145 hQ145
      subst l145 y145 z145
      obtain ⟨rfl, M145, e145⟩ := hQ145
      have N145 := Fr.app N144 M145
      refine own_tr (S' := T145.setTop (mkF m 135 #[.val (.int p0), .val (.int p1), .val (.int p2), .val (.int p3), .val (.int p4), .val (.int (3 : Int32)), .val (.int i131), .val (.int i132), .val (.int i133), .val (.int i134), .val (.ref r135), .val (.int i133), .val (.ref r135)] [(.int (StrChars.pairCh (StrChars.lo8 i133) (StrChars.hi8 i133)))])) st145 ?_
      rw [StrChars.pair_says (own_chr gi133).1.1 (own_chr gi133).1.2]
      refine own_st (S' := T145.setTop (mkF m 145 #[.val (.int p0), .val (.int p1), .val (.int p2), .val (.int p3), .val (.int p4), .val (.int (3 : Int32)), .val (.int i131), .val (.int i132), .val (.int i133), .val (.int i134), .val (.ref r135), .val (.int i133), .val (.ref r135)] [(.int (1 : Int32))])) (fun _ k => XS.iload X145.here hx rfl (hb hby at_135) rfl (XS.icmpNo X145.here hx rfl (hb hby at_137) rfl (teq rfl).2 (XS.iconst X145.here hx rfl (hb hby at_140) (XS.goto X145.here hx rfl (pc0 := 141) (pc' := 145) rfl (hb hby at_141) (by decide) (by decide) k)))) ?_
      refine own_ret X145 hx Bd.returns hlk rfl (Or.inl ⟨rfl, (by simp), _, rfl⟩) (hb hby at_145) (by decide) (by decide) ?_
      rw [e145]
      exact ⟨rfl, N145⟩
  · rw [hf, show (3 : Int32) + (1 : Int32) = (4 : Int32) from by decide]
    refine own_st (S' := s₁.setTop (mkF m 8 #[.val (.int p0), .val (.int p1), .val (.int p2), .val (.int p3), .val (.int p4), .val (.int (4 : Int32)), .unset, .unset, .unset, .unset, .unset, .unset, .unset] [(.int p1)])) (fun _ k => XS.istore X0.here hx rfl (hb hby at_5) rfl (l' := #[.val (.int p0), .val (.int p1), .val (.int p2), .val (.int p3), .val (.int p4), .val (.int (4 : Int32)), .unset, .unset, .unset, .unset, .unset, .unset, .unset]) rfl (XS.iloadN X0.here hx rfl (hb hby at_7) rfl k)) ?_
    refine own_st (S' := s₁.setTop (mkF m 10 #[.val (.int p0), .val (.int p1), .val (.int p2), .val (.int p3), .val (.int p4), .val (.int (4 : Int32)), .unset, .unset, .unset, .unset, .unset, .unset, .unset] [(.int (65535 : Int32)), (.int p1)])) (X0.ldcInt hx hown (mvT hZ (hw _ own_w0)) (g := (mkF m 8 #[.val (.int p0), .val (.int p1), .val (.int p2), .val (.int p3), .val (.int p4), .val (.int (4 : Int32)), .unset, .unset, .unset, .unset, .unset, .unset, .unset] [(.int p1)])) rfl (hb hby at_8)) ?_
    refine own_st (S' := s₁.setTop (mkF m 14 #[.val (.int p0), .val (.int p1), .val (.int p2), .val (.int p3), .val (.int p4), .val (.int (4 : Int32)), .val (.int ((p1 &&& (65535 : Int32)).toUInt32.toUInt16.toUInt32.toInt32)), .unset, .unset, .unset, .unset, .unset, .unset] [])) (fun _ k => XS.iand X0.here hx rfl (hb hby at_10) rfl (XS.i2c X0.here hx rfl (hb hby at_11) rfl (XS.istore X0.here hx rfl (hb hby at_12) rfl (l' := #[.val (.int p0), .val (.int p1), .val (.int p2), .val (.int p3), .val (.int p4), .val (.int (4 : Int32)), .val (.int ((p1 &&& (65535 : Int32)).toUInt32.toUInt16.toUInt32.toInt32)), .unset, .unset, .unset, .unset, .unset, .unset]) rfl k))) ?_
    generalize gi146 : ((p1 &&& (65535 : Int32)).toUInt32.toUInt16.toUInt32.toInt32) = i146
    refine own_st (S' := s₁.setTop (mkF m 15 #[.val (.int p0), .val (.int p1), .val (.int p2), .val (.int p3), .val (.int p4), .val (.int (4 : Int32)), .val (.int i146), .unset, .unset, .unset, .unset, .unset, .unset] [(.int p2)])) (fun _ k => XS.iloadN X0.here hx rfl (hb hby at_14) rfl k) ?_
    refine own_st (S' := s₁.setTop (mkF m 17 #[.val (.int p0), .val (.int p1), .val (.int p2), .val (.int p3), .val (.int p4), .val (.int (4 : Int32)), .val (.int i146), .unset, .unset, .unset, .unset, .unset, .unset] [(.int (65535 : Int32)), (.int p2)])) (X0.ldcInt hx hown (mvT hZ (hw _ own_w0)) (g := (mkF m 15 #[.val (.int p0), .val (.int p1), .val (.int p2), .val (.int p3), .val (.int p4), .val (.int (4 : Int32)), .val (.int i146), .unset, .unset, .unset, .unset, .unset, .unset] [(.int p2)])) rfl (hb hby at_15)) ?_
    refine own_st (S' := s₁.setTop (mkF m 21 #[.val (.int p0), .val (.int p1), .val (.int p2), .val (.int p3), .val (.int p4), .val (.int (4 : Int32)), .val (.int i146), .val (.int ((p2 &&& (65535 : Int32)).toUInt32.toUInt16.toUInt32.toInt32)), .unset, .unset, .unset, .unset, .unset] [])) (fun _ k => XS.iand X0.here hx rfl (hb hby at_17) rfl (XS.i2c X0.here hx rfl (hb hby at_18) rfl (XS.istore X0.here hx rfl (hb hby at_19) rfl (l' := #[.val (.int p0), .val (.int p1), .val (.int p2), .val (.int p3), .val (.int p4), .val (.int (4 : Int32)), .val (.int i146), .val (.int ((p2 &&& (65535 : Int32)).toUInt32.toUInt16.toUInt32.toInt32)), .unset, .unset, .unset, .unset, .unset]) rfl k))) ?_
    generalize gi147 : ((p2 &&& (65535 : Int32)).toUInt32.toUInt16.toUInt32.toInt32) = i147
    refine own_st (S' := s₁.setTop (mkF m 22 #[.val (.int p0), .val (.int p1), .val (.int p2), .val (.int p3), .val (.int p4), .val (.int (4 : Int32)), .val (.int i146), .val (.int i147), .unset, .unset, .unset, .unset, .unset] [(.int p3)])) (fun _ k => XS.iloadN X0.here hx rfl (hb hby at_21) rfl k) ?_
    refine own_st (S' := s₁.setTop (mkF m 24 #[.val (.int p0), .val (.int p1), .val (.int p2), .val (.int p3), .val (.int p4), .val (.int (4 : Int32)), .val (.int i146), .val (.int i147), .unset, .unset, .unset, .unset, .unset] [(.int (65535 : Int32)), (.int p3)])) (X0.ldcInt hx hown (mvT hZ (hw _ own_w0)) (g := (mkF m 22 #[.val (.int p0), .val (.int p1), .val (.int p2), .val (.int p3), .val (.int p4), .val (.int (4 : Int32)), .val (.int i146), .val (.int i147), .unset, .unset, .unset, .unset, .unset] [(.int p3)])) rfl (hb hby at_22)) ?_
    refine own_st (S' := s₁.setTop (mkF m 28 #[.val (.int p0), .val (.int p1), .val (.int p2), .val (.int p3), .val (.int p4), .val (.int (4 : Int32)), .val (.int i146), .val (.int i147), .val (.int ((p3 &&& (65535 : Int32)).toUInt32.toUInt16.toUInt32.toInt32)), .unset, .unset, .unset, .unset] [])) (fun _ k => XS.iand X0.here hx rfl (hb hby at_24) rfl (XS.i2c X0.here hx rfl (hb hby at_25) rfl (XS.istore X0.here hx rfl (hb hby at_26) rfl (l' := #[.val (.int p0), .val (.int p1), .val (.int p2), .val (.int p3), .val (.int p4), .val (.int (4 : Int32)), .val (.int i146), .val (.int i147), .val (.int ((p3 &&& (65535 : Int32)).toUInt32.toUInt16.toUInt32.toInt32)), .unset, .unset, .unset, .unset]) rfl k))) ?_
    generalize gi148 : ((p3 &&& (65535 : Int32)).toUInt32.toUInt16.toUInt32.toInt32) = i148
    refine own_st (S' := s₁.setTop (mkF m 30 #[.val (.int p0), .val (.int p1), .val (.int p2), .val (.int p3), .val (.int p4), .val (.int (4 : Int32)), .val (.int i146), .val (.int i147), .val (.int i148), .unset, .unset, .unset, .unset] [(.int p4)])) (fun _ k => XS.iload X0.here hx rfl (hb hby at_28) rfl k) ?_
    refine own_st (S' := s₁.setTop (mkF m 32 #[.val (.int p0), .val (.int p1), .val (.int p2), .val (.int p3), .val (.int p4), .val (.int (4 : Int32)), .val (.int i146), .val (.int i147), .val (.int i148), .unset, .unset, .unset, .unset] [(.int (65535 : Int32)), (.int p4)])) (X0.ldcInt hx hown (mvT hZ (hw _ own_w0)) (g := (mkF m 30 #[.val (.int p0), .val (.int p1), .val (.int p2), .val (.int p3), .val (.int p4), .val (.int (4 : Int32)), .val (.int i146), .val (.int i147), .val (.int i148), .unset, .unset, .unset, .unset] [(.int p4)])) rfl (hb hby at_30)) ?_
    refine own_st (S' := s₁.setTop (mkF m 36 #[.val (.int p0), .val (.int p1), .val (.int p2), .val (.int p3), .val (.int p4), .val (.int (4 : Int32)), .val (.int i146), .val (.int i147), .val (.int i148), .val (.int ((p4 &&& (65535 : Int32)).toUInt32.toUInt16.toUInt32.toInt32)), .unset, .unset, .unset] [])) (fun _ k => XS.iand X0.here hx rfl (hb hby at_32) rfl (XS.i2c X0.here hx rfl (hb hby at_33) rfl (XS.istore X0.here hx rfl (hb hby at_34) rfl (l' := #[.val (.int p0), .val (.int p1), .val (.int p2), .val (.int p3), .val (.int p4), .val (.int (4 : Int32)), .val (.int i146), .val (.int i147), .val (.int i148), .val (.int ((p4 &&& (65535 : Int32)).toUInt32.toUInt16.toUInt32.toInt32)), .unset, .unset, .unset]) rfl k))) ?_
    generalize gi149 : ((p4 &&& (65535 : Int32)).toUInt32.toUInt16.toUInt32.toInt32) = i149
    refine own_st (S' := s₁.setTop (mkF m 44 #[.val (.int p0), .val (.int p1), .val (.int p2), .val (.int p3), .val (.int p4), .val (.int (4 : Int32)), .val (.int i146), .val (.int i147), .val (.int i148), .val (.int i149), .unset, .unset, .unset] [(.int i148), (.int i147), (.int i146), (.int (4 : Int32))])) (fun _ k => XS.iload X0.here hx rfl (hb hby at_36) rfl (XS.iload X0.here hx rfl (hb hby at_38) rfl (XS.iload X0.here hx rfl (hb hby at_40) rfl (XS.iload X0.here hx rfl (hb hby at_42) rfl k)))) ?_
    refine own_st (S' := s₁.setTop (mkF m 46 #[.val (.int p0), .val (.int p1), .val (.int p2), .val (.int p3), .val (.int p4), .val (.int (4 : Int32)), .val (.int i146), .val (.int i147), .val (.int i148), .val (.int i149), .unset, .unset, .unset] [(.int i149), (.int i148), (.int i147), (.int i146), (.int (4 : Int32))])) (fun _ k => XS.iload X0.here hx rfl (hb hby at_44) rfl k) ?_
    obtain ⟨_, _, ⟨T150, L150, k150, n150⟩, -, X150, ⟨Lc150, hQ150, l150, y150, z150⟩, st150⟩ := Jvm.LawKit.callS X0 hx (y := (⟨"com/example/sault/sault/ArgumentsLockNamePinLaw", "make", "(ICCCC)Ljava/lang/String;"⟩ : MethodName)) hown (mvT hZ (hw _ own_w1)) (mvT hZ (hw _ own_w2)) (mvT hZ (hw _ own_w3)) (mvT hZ (hw _ own_w4)) (by decide) (backOf (W := 0) (own_rm_make4 l Z a0 hw G1 S1 P1 G3 S3 P3 S4 S5 S6 [] i146 i147 i148 i149 h0 n0 (Nat.le_trans Z0 (Nat.le_refl _)) XO (own_chr gi146).1 (own_chr gi146).2 (own_chr gi147).1 (own_chr gi147).2 (own_chr gi148).1 (own_chr gi148).2 (own_chr gi149).1 (own_chr gi149).2) hZ (hw _ own_w4) (hw _ own_w3) (by decide) (by decide)) (g := (mkF m 46 #[.val (.int p0), .val (.int p1), .val (.int p2), .val (.int p3), .val (.int p4), .val (.int (4 : Int32)), .val (.int i146), .val (.int i147), .val (.int i148), .val (.int i149), .unset, .unset, .unset] [(.int i149), (.int i148), (.int i147), (.int i146), (.int (4 : Int32))])) rfl (by rw [hml]; rfl) (argsL := [(.int (4 : Int32)), (.int i146), (.int i147), (.int i148), (.int i149)]) (rest := []) (lenOf own_pd14 rfl) rfl (by show 2 * 0 + _ ≤ _; exact Nat.le_of_eq rfl) (hb hby at_46) (fun _ _ => ⟨rfl, e0, (by decide : 0 + 4 ≤ _), (by decide : 0 + 20 ≤ _)⟩)
    dsimp only [Pt.U, Pt.locs, Pt.cells, Pt.slots] at X150 l150 y150 z150 st150 hQ150
    subst l150 y150 z150
    obtain ⟨r150, rfl, M150, E150, g150, Y150⟩ := hQ150
    have N150 := Fr.app N0 M150
    obtain ⟨h150, e150⟩ : ∃ z, T150.heap = z := ⟨_, rfl⟩
    rw [e150] at E150 Y150
    refine own_st (S' := T150.setTop (mkF m 49 #[.val (.int p0), .val (.int p1), .val (.int p2), .val (.int p3), .val (.int p4), .val (.int (4 : Int32)), .val (.int i146), .val (.int i147), .val (.int i148), .val (.int i149), .unset, .unset, .unset] [(.ref r150)])) st150 ?_
    refine own_st (S' := T150.setTop (mkF m 57 #[.val (.int p0), .val (.int p1), .val (.int p2), .val (.int p3), .val (.int p4), .val (.int (4 : Int32)), .val (.int i146), .val (.int i147), .val (.int i148), .val (.int i149), .val (.ref r150), .val (.int i146), .unset] [(.int (4 : Int32))])) (fun _ k => XS.astore X150.here hx rfl (hb hby at_49) rfl rfl (l' := #[.val (.int p0), .val (.int p1), .val (.int p2), .val (.int p3), .val (.int p4), .val (.int (4 : Int32)), .val (.int i146), .val (.int i147), .val (.int i148), .val (.int i149), .val (.ref r150), .unset, .unset]) rfl (XS.iload X150.here hx rfl (hb hby at_51) rfl (XS.istore X150.here hx rfl (hb hby at_53) rfl (l' := #[.val (.int p0), .val (.int p1), .val (.int p2), .val (.int p3), .val (.int p4), .val (.int (4 : Int32)), .val (.int i146), .val (.int i147), .val (.int i148), .val (.int i149), .val (.ref r150), .val (.int i146), .unset]) rfl (XS.iload X150.here hx rfl (hb hby at_55) rfl k)))) ?_
    refine own_st (S' := T150.setTop (mkF m 71 #[.val (.int p0), .val (.int p1), .val (.int p2), .val (.int p3), .val (.int p4), .val (.int (4 : Int32)), .val (.int i146), .val (.int i147), .val (.int i148), .val (.int i149), .val (.ref r150), .val (.int i146), .unset] [(.int (3 : Int32)), (.int (4 : Int32))])) (fun _ k => XS.iconst X150.here hx rfl (hb hby at_57) (XS.icmpYes X150.here hx rfl (pc0 := 58) (pc' := 68) rfl (hb hby at_58) rfl (by decide) (by decide) (by decide) (XS.iload X150.here hx rfl (hb hby at_68) rfl (XS.iconst X150.here hx rfl (hb hby at_70) k)))) ?_
    refine own_st (S' := T150.setTop (mkF m 87 #[.val (.int p0), .val (.int p1), .val (.int p2), .val (.int p3), .val (.int p4), .val (.int (4 : Int32)), .val (.int i146), .val (.int i147), .val (.int i148), .val (.int i149), .val (.ref r150), .val (.int i146), .unset] [])) (fun _ k => XS.icmpYes X150.here hx rfl (pc0 := 71) (pc' := 81) rfl (hb hby at_71) rfl (by decide) (by decide) (by decide) (XS.iload X150.here hx rfl (hb hby at_81) rfl (XS.iconst X150.here hx rfl (hb hby at_83) (XS.icmpNo X150.here hx rfl (hb hby at_84) rfl (by decide) k)))) ?_
    refine own_st (S' := T150.setTop (mkF m 93 #[.val (.int p0), .val (.int p1), .val (.int p2), .val (.int p3), .val (.int p4), .val (.int (4 : Int32)), .val (.int i146), .val (.int i147), .val (.int i148), .val (.int i149), .val (.ref r150), .val (.int i149), .unset] [(.ref r150)])) (fun _ k => XS.iload X150.here hx rfl (hb hby at_87) rfl (XS.istore X150.here hx rfl (hb hby at_89) rfl (l' := #[.val (.int p0), .val (.int p1), .val (.int p2), .val (.int p3), .val (.int p4), .val (.int (4 : Int32)), .val (.int i146), .val (.int i147), .val (.int i148), .val (.int i149), .val (.ref r150), .val (.int i149), .unset]) rfl (XS.aload X150.here hx rfl (hb hby at_91) rfl rfl k))) ?_
    have XO151 : Old Z n0 h150 := (XO.ext E150)
    obtain ⟨_, _, ⟨T152, L152, k152, n152⟩, -, X152, ⟨Lc152, hQ152, l152, y152, z152⟩, st152⟩ := Jvm.LawKit.callS X150 hx (y := (⟨"com/example/sault/sault/Arguments", "lockName", "(Ljava/lang/String;)Ljava/lang/String;"⟩ : MethodName)) hown (mvT hZ (hw _ own_w35)) (mvT hZ (hw _ own_w36)) (mvT hZ (hw _ own_w37)) (mvT hZ (hw _ own_w38)) (by decide) (backOf (W := 0) (own_rm_lock l Z a0 hw G1 S1 P1 G3 S3 P3 S4 S5 S6 [] r150 _ h150 n0 (Nat.le_trans Z0 E150.1) XO151 Y150 (by simp)) hZ (hw _ own_w38) (hw _ own_w37) (by decide) (by decide)) (g := (mkF m 93 #[.val (.int p0), .val (.int p1), .val (.int p2), .val (.int p3), .val (.int p4), .val (.int (4 : Int32)), .val (.int i146), .val (.int i147), .val (.int i148), .val (.int i149), .val (.ref r150), .val (.int i149), .unset] [(.ref r150)])) rfl (by rw [hml]; rfl) (argsL := [(.ref r150)]) (rest := []) (lenOf own_pd15 rfl) rfl (by show 2 * 0 + _ ≤ _; exact Nat.le_of_eq rfl) (hb hby at_93) (fun _ _ => ⟨rfl, e150, (by decide : 4 + 0 ≤ _), (by decide : 20 + 0 ≤ _)⟩)
    dsimp only [Pt.U, Pt.locs, Pt.cells, Pt.slots] at X152 l152 y152 z152 st152 hQ152
    subst l152 y152 z152
    obtain ⟨rfl, M152, e152⟩ := hQ152
    have N152 := Fr.app N150 M152
    refine own_st (S' := T152.setTop (mkF m 96 #[.val (.int p0), .val (.int p1), .val (.int p2), .val (.int p3), .val (.int p4), .val (.int (4 : Int32)), .val (.int i146), .val (.int i147), .val (.int i148), .val (.int i149), .val (.ref r150), .val (.int i149), .unset] [(.ref r150)])) st152 ?_
    refine own_st (S' := T152.setTop (mkF m 102 #[.val (.int p0), .val (.int p1), .val (.int p2), .val (.int p3), .val (.int p4), .val (.int (4 : Int32)), .val (.int i146), .val (.int i147), .val (.int i148), .val (.int i149), .val (.ref r150), .val (.int i149), .val (.ref r150)] [(.ref r150), (.ref r150)])) (fun _ k => XS.astore X152.here hx rfl (hb hby at_96) rfl rfl (l' := #[.val (.int p0), .val (.int p1), .val (.int p2), .val (.int p3), .val (.int p4), .val (.int (4 : Int32)), .val (.int i146), .val (.int i147), .val (.int i148), .val (.int i149), .val (.ref r150), .val (.int i149), .val (.ref r150)]) rfl (XS.aload X152.here hx rfl (hb hby at_98) rfl rfl (XS.aload X152.here hx rfl (hb hby at_100) rfl rfl k))) ?_
    refine own_st (S' := T152.setTop (mkF m 105 #[.val (.int p0), .val (.int p1), .val (.int p2), .val (.int p3), .val (.int p4), .val (.int (4 : Int32)), .val (.int i146), .val (.int i147), .val (.int i148), .val (.int i149), .val (.ref r150), .val (.int i149), .val (.ref r150)] [])) (fun _ k => Jvm.RoadKit.acmp (g := (mkF m 102 #[.val (.int p0), .val (.int p1), .val (.int p2), .val (.int p3), .val (.int p4), .val (.int (4 : Int32)), .val (.int i146), .val (.int i147), .val (.int i148), .val (.int i149), .val (.ref r150), .val (.int i149), .val (.ref r150)] [(.ref r150), (.ref r150)])) X152 hx rfl rfl rfl (pc0 := 102) (pc' := 105) (same := true) rfl (hb hby at_102) rfl (decide_eq_true rfl) (by decide) (by decide) k) ?_
    refine own_st (S' := T152.setTop (mkF m 107 #[.val (.int p0), .val (.int p1), .val (.int p2), .val (.int p3), .val (.int p4), .val (.int (4 : Int32)), .val (.int i146), .val (.int i147), .val (.int i148), .val (.int i149), .val (.ref r150), .val (.int i149), .val (.ref r150)] [(.ref r150)])) (fun _ k => XS.aload X152.here hx rfl (hb hby at_105) rfl rfl k) ?_
    have S153 : Sta Z h150 "java/lang/String" "COMPACT_STRINGS" "Z" (.int G1) := (S1.ext XO151.2)
    obtain ⟨cq154, kq154, q154a, q154b, q154c⟩ := isOf hZ e152 Y150.exa
    obtain ⟨_, _, ⟨T154, L154, k154, n154⟩, -, X154, ⟨Lc154, hQ154, l154, y154, z154⟩, st154⟩ := X152.virtualBack hx (y := (⟨"java/lang/String", "length", "()I"⟩ : MethodName)) (z := (⟨"java/lang/String", "length", "()I"⟩ : MethodName)) hown (mvT hZ (hw _ own_w44)) (mvT hZ (hw _ own_w45)) (notFace_of_selects (args := #[]) (mvT hZ (hw _ own_w47))) (mvT hZ (hw _ own_w47)) (mvT hZ (hw _ own_w46)) (by decide) (own_lenB (W := 0) hZ hw Y150 S153 P1 (by decide) (by decide)) q154a q154c (g := (mkF m 107 #[.val (.int p0), .val (.int p1), .val (.int p2), .val (.int p3), .val (.int p4), .val (.int (4 : Int32)), .val (.int i146), .val (.int i147), .val (.int i148), .val (.int i149), .val (.ref r150), .val (.int i149), .val (.ref r150)] [(.ref r150)])) rfl (by rw [hml]; rfl) (Steps.refl _) (argsL := []) (rest := []) (lenOf own_pd16 rfl) rfl (by show 2 * 0 + _ ≤ _; exact Nat.le_of_eq rfl) (hb hby at_107) (fun _ _ => ⟨rfl, e152, (by decide : 4 + 0 ≤ _), (by decide : 20 + 0 ≤ _)⟩)
    dsimp only [Pt.U, Pt.locs, Pt.cells, Pt.slots] at X154 l154 y154 z154 st154 hQ154
    subst l154 y154 z154
    obtain ⟨rfl, rfl, e154⟩ := hQ154
    rw [List.append_nil] at X154
    refine own_tr (S' := T154.setTop (mkF m 110 #[.val (.int p0), .val (.int p1), .val (.int p2), .val (.int p3), .val (.int p4), .val (.int (4 : Int32)), .val (.int i146), .val (.int i147), .val (.int i148), .val (.int i149), .val (.ref r150), .val (.int i149), .val (.ref r150)] [(.int (4 : Int32))])) st154 ?_
    refine own_st (S' := T154.setTop (mkF m 118 #[.val (.int p0), .val (.int p1), .val (.int p2), .val (.int p3), .val (.int p4), .val (.int (4 : Int32)), .val (.int i146), .val (.int i147), .val (.int i148), .val (.int i149), .val (.ref r150), .val (.int i149), .val (.ref r150)] [(.int (0 : Int32)), (.ref r150)])) (fun _ k => XS.iload X154.here hx rfl (hb hby at_110) rfl (XS.icmpNo X154.here hx rfl (hb hby at_112) rfl (by decide) (XS.aload X154.here hx rfl (hb hby at_115) rfl rfl (XS.iconst X154.here hx rfl (hb hby at_117) k)))) ?_
    obtain ⟨d155, k155, cd155, N155, vs155, Ex155, Fv155, Fc155, V155, cod155, al155, -⟩ := id Y150
    rcases cod155 with ⟨rfl, rfl, rfl, sm155⟩ | ⟨rfl, rfl, rfl, lg155⟩
    · skip
      have S156 : Sta Z h150 "jdk/internal/util/Preconditions" "SIOOBE_FORMATTER" "Ljava/util/function/BiFunction;" G3 := (S3.ext XO151.2)
      obtain ⟨cq157, kq157, q157a, q157b, q157c⟩ := isOf hZ e154 Y150.exa
      obtain ⟨_, _, ⟨T157, L157, k157, n157⟩, -, X157, ⟨Lc157, hQ157, l157, y157, z157⟩, st157⟩ := X154.virtualBack hx (y := (⟨"java/lang/String", "charAt", "(I)C"⟩ : MethodName)) (z := (⟨"java/lang/String", "charAt", "(I)C"⟩ : MethodName)) hown (mvT hZ (hw _ own_w54)) (mvT hZ (hw _ own_w55)) (notFace_of_selects (args := #[]) (mvT hZ (hw _ own_w57))) (mvT hZ (hw _ own_w57)) (mvT hZ (hw _ own_w56)) (by decide) (own_chB (W := 0) (i := 0) hZ hw Y150 sm155 S153 P1 S156 P3 (Nat.le_of_ble_eq_true rfl) rfl (by decide) (by decide)) q157a q157c (g := (mkF m 118 #[.val (.int p0), .val (.int p1), .val (.int p2), .val (.int p3), .val (.int p4), .val (.int (4 : Int32)), .val (.int i146), .val (.int i147), .val (.int i148), .val (.int i149), .val (.ref r150), .val (.int i149), .val (.ref r150)] [(.int (0 : Int32)), (.ref r150)])) rfl (by rw [hml]; rfl) (Steps.refl _) (argsL := [(.int (0 : Int32))]) (rest := []) (lenOf own_pd17 rfl) rfl (by show 2 * 0 + _ ≤ _; exact Nat.le_of_eq rfl) (hb hby at_118) (fun _ _ => ⟨rfl, e154, (by decide : 4 + 0 ≤ _), (by decide : 20 + 0 ≤ _)⟩)
      dsimp only [Pt.U, Pt.locs, Pt.cells, Pt.slots] at X157 l157 y157 z157 st157 hQ157
      subst l157 y157 z157
      obtain ⟨rfl, rfl, e157⟩ := hQ157
      try rw [List.append_nil] at X157
      refine own_tr (S' := T157.setTop (mkF m 121 #[.val (.int p0), .val (.int p1), .val (.int p2), .val (.int p3), .val (.int p4), .val (.int (4 : Int32)), .val (.int i146), .val (.int i147), .val (.int i148), .val (.int i149), .val (.ref r150), .val (.int i149), .val (.ref r150)] [(.int i146)])) st157 ?_
      refine own_st (S' := T157.setTop (mkF m 130 #[.val (.int p0), .val (.int p1), .val (.int p2), .val (.int p3), .val (.int p4), .val (.int (4 : Int32)), .val (.int i146), .val (.int i147), .val (.int i148), .val (.int i149), .val (.ref r150), .val (.int i149), .val (.ref r150)] [(.int (4 : Int32)), (.ref r150)])) (fun _ k => XS.iload X157.here hx rfl (hb hby at_121) rfl (XS.icmpNo X157.here hx rfl (hb hby at_123) rfl (teq rfl).2 (XS.aload X157.here hx rfl (hb hby at_126) rfl rfl (XS.iload X157.here hx rfl (hb hby at_128) rfl k)))) ?_
      refine own_st (S' := T157.setTop (mkF m 132 #[.val (.int p0), .val (.int p1), .val (.int p2), .val (.int p3), .val (.int p4), .val (.int (4 : Int32)), .val (.int i146), .val (.int i147), .val (.int i148), .val (.int i149), .val (.ref r150), .val (.int i149), .val (.ref r150)] [(.int (3 : Int32)), (.ref r150)])) (fun _ k => XS.iconst X157.here hx rfl (hb hby at_130) (XS.isub X157.here hx rfl (hb hby at_131) rfl k)) ?_
      obtain ⟨cq158, kq158, q158a, q158b, q158c⟩ := isOf hZ e157 Y150.exa
      obtain ⟨_, _, ⟨T158, L158, k158, n158⟩, -, X158, ⟨Lc158, hQ158, l158, y158, z158⟩, st158⟩ := X157.virtualBack hx (y := (⟨"java/lang/String", "charAt", "(I)C"⟩ : MethodName)) (z := (⟨"java/lang/String", "charAt", "(I)C"⟩ : MethodName)) hown (mvT hZ (hw _ own_w54)) (mvT hZ (hw _ own_w55)) (notFace_of_selects (args := #[]) (mvT hZ (hw _ own_w57))) (mvT hZ (hw _ own_w57)) (mvT hZ (hw _ own_w56)) (by decide) (own_chB (W := 0) (i := 3) hZ hw Y150 sm155 S153 P1 S156 P3 (Nat.le_of_ble_eq_true rfl) rfl (by decide) (by decide)) q158a q158c (g := (mkF m 132 #[.val (.int p0), .val (.int p1), .val (.int p2), .val (.int p3), .val (.int p4), .val (.int (4 : Int32)), .val (.int i146), .val (.int i147), .val (.int i148), .val (.int i149), .val (.ref r150), .val (.int i149), .val (.ref r150)] [(.int (3 : Int32)), (.ref r150)])) rfl (by rw [hml]; rfl) (Steps.refl _) (argsL := [(.int (3 : Int32))]) (rest := []) (lenOf own_pd17 rfl) rfl (by show 2 * 0 + _ ≤ _; exact Nat.le_of_eq rfl) (hb hby at_132) (fun _ _ => ⟨rfl, e157, (by decide : 4 + 0 ≤ _), (by decide : 20 + 0 ≤ _)⟩)
      dsimp only [Pt.U, Pt.locs, Pt.cells, Pt.slots] at X158 l158 y158 z158 st158 hQ158
      subst l158 y158 z158
      obtain ⟨rfl, rfl, e158⟩ := hQ158
      try rw [List.append_nil] at X158
      refine own_tr (S' := T158.setTop (mkF m 135 #[.val (.int p0), .val (.int p1), .val (.int p2), .val (.int p3), .val (.int p4), .val (.int (4 : Int32)), .val (.int i146), .val (.int i147), .val (.int i148), .val (.int i149), .val (.ref r150), .val (.int i149), .val (.ref r150)] [(.int i149)])) st158 ?_
      refine own_st (S' := T158.setTop (mkF m 145 #[.val (.int p0), .val (.int p1), .val (.int p2), .val (.int p3), .val (.int p4), .val (.int (4 : Int32)), .val (.int i146), .val (.int i147), .val (.int i148), .val (.int i149), .val (.ref r150), .val (.int i149), .val (.ref r150)] [(.int (1 : Int32))])) (fun _ k => XS.iload X158.here hx rfl (hb hby at_135) rfl (XS.icmpNo X158.here hx rfl (hb hby at_137) rfl (teq rfl).2 (XS.iconst X158.here hx rfl (hb hby at_140) (XS.goto X158.here hx rfl (pc0 := 141) (pc' := 145) rfl (hb hby at_141) (by decide) (by decide) k)))) ?_
      refine own_ret X158 hx Bd.returns hlk rfl (Or.inl ⟨rfl, (by simp), _, rfl⟩) (hb hby at_145) (by decide) (by decide) ?_
      rw [e158]
      exact ⟨rfl, N152⟩
    · skip
      obtain ⟨cq159, kq159, q159a, q159b, q159c⟩ := isOf hZ e154 Y150.exa
      obtain ⟨_, _, ⟨T159, L159, k159, n159⟩, -, X159, ⟨Lc159, hQ159, l159, y159, z159⟩, st159⟩ := X154.virtualBack hx (y := (⟨"java/lang/String", "charAt", "(I)C"⟩ : MethodName)) (z := (⟨"java/lang/String", "charAt", "(I)C"⟩ : MethodName)) hown (mvT hZ (hw _ own_w54)) (mvT hZ (hw _ own_w55)) (notFace_of_selects (args := #[]) (mvT hZ (hw _ own_w57))) (mvT hZ (hw _ own_w57)) (mvT hZ (hw _ own_w56)) (by decide) (backOf (W := 0) (own_rm_sca l Z a0 hw G1 S1 P1 G3 S3 P3 S4 S5 S6 [] r150 d155 (0 : Int32) (0 : Int32) (8 : Int32) (StrChars.lo8 i146) (StrChars.hi8 i146) k155 _ h150 n0 (Nat.le_trans Z0 E150.1) XO151 Y150.exa Fv155 Fc155 V155 (by decide) ⟨by decide, by decide⟩ ⟨by decide, by decide⟩ rfl rfl (by decide) (by decide)) hZ (hw _ own_w58) (hw _ own_w8) (by decide) (by decide)) q159a q159c (g := (mkF m 118 #[.val (.int p0), .val (.int p1), .val (.int p2), .val (.int p3), .val (.int p4), .val (.int (4 : Int32)), .val (.int i146), .val (.int i147), .val (.int i148), .val (.int i149), .val (.ref r150), .val (.int i149), .val (.ref r150)] [(.int (0 : Int32)), (.ref r150)])) rfl (by rw [hml]; rfl) (Steps.refl _) (argsL := [(.int (0 : Int32))]) (rest := []) (lenOf own_pd17 rfl) rfl (by show 2 * 0 + _ ≤ _; exact Nat.le_of_eq rfl) (hb hby at_118) (fun _ _ => ⟨rfl, e154, (by decide : 4 + 0 ≤ _), (by decide : 20 + 0 ≤ _)⟩)
      dsimp only [Pt.U, Pt.locs, Pt.cells, Pt.slots] at X159 l159 y159 z159 st159 hQ159
      subst l159 y159 z159
      obtain ⟨rfl, M159, e159⟩ := hQ159
      have N159 := Fr.app N152 M159
      refine own_tr (S' := T159.setTop (mkF m 121 #[.val (.int p0), .val (.int p1), .val (.int p2), .val (.int p3), .val (.int p4), .val (.int (4 : Int32)), .val (.int i146), .val (.int i147), .val (.int i148), .val (.int i149), .val (.ref r150), .val (.int i149), .val (.ref r150)] [(.int (StrChars.pairCh (StrChars.lo8 i146) (StrChars.hi8 i146)))])) st159 ?_
      rw [StrChars.pair_says (own_chr gi146).1.1 (own_chr gi146).1.2]
      refine own_st (S' := T159.setTop (mkF m 130 #[.val (.int p0), .val (.int p1), .val (.int p2), .val (.int p3), .val (.int p4), .val (.int (4 : Int32)), .val (.int i146), .val (.int i147), .val (.int i148), .val (.int i149), .val (.ref r150), .val (.int i149), .val (.ref r150)] [(.int (4 : Int32)), (.ref r150)])) (fun _ k => XS.iload X159.here hx rfl (hb hby at_121) rfl (XS.icmpNo X159.here hx rfl (hb hby at_123) rfl (teq rfl).2 (XS.aload X159.here hx rfl (hb hby at_126) rfl rfl (XS.iload X159.here hx rfl (hb hby at_128) rfl k)))) ?_
      refine own_st (S' := T159.setTop (mkF m 132 #[.val (.int p0), .val (.int p1), .val (.int p2), .val (.int p3), .val (.int p4), .val (.int (4 : Int32)), .val (.int i146), .val (.int i147), .val (.int i148), .val (.int i149), .val (.ref r150), .val (.int i149), .val (.ref r150)] [(.int (3 : Int32)), (.ref r150)])) (fun _ k => XS.iconst X159.here hx rfl (hb hby at_130) (XS.isub X159.here hx rfl (hb hby at_131) rfl k)) ?_
      obtain ⟨cq160, kq160, q160a, q160b, q160c⟩ := isOf hZ e159 Y150.exa
      obtain ⟨_, _, ⟨T160, L160, k160, n160⟩, -, X160, ⟨Lc160, hQ160, l160, y160, z160⟩, st160⟩ := X159.virtualBack hx (y := (⟨"java/lang/String", "charAt", "(I)C"⟩ : MethodName)) (z := (⟨"java/lang/String", "charAt", "(I)C"⟩ : MethodName)) hown (mvT hZ (hw _ own_w54)) (mvT hZ (hw _ own_w55)) (notFace_of_selects (args := #[]) (mvT hZ (hw _ own_w57))) (mvT hZ (hw _ own_w57)) (mvT hZ (hw _ own_w56)) (by decide) (backOf (W := 0) (own_rm_sca l Z a0 hw G1 S1 P1 G3 S3 P3 S4 S5 S6 [] r150 d155 (3 : Int32) (6 : Int32) (8 : Int32) (StrChars.lo8 i149) (StrChars.hi8 i149) k155 _ h150 n0 (Nat.le_trans Z0 E150.1) XO151 Y150.exa Fv155 Fc155 V155 (by decide) ⟨by decide, by decide⟩ ⟨by decide, by decide⟩ rfl rfl (by decide) (by decide)) hZ (hw _ own_w58) (hw _ own_w8) (by decide) (by decide)) q160a q160c (g := (mkF m 132 #[.val (.int p0), .val (.int p1), .val (.int p2), .val (.int p3), .val (.int p4), .val (.int (4 : Int32)), .val (.int i146), .val (.int i147), .val (.int i148), .val (.int i149), .val (.ref r150), .val (.int i149), .val (.ref r150)] [(.int (3 : Int32)), (.ref r150)])) rfl (by rw [hml]; rfl) (Steps.refl _) (argsL := [(.int (3 : Int32))]) (rest := []) (lenOf own_pd17 rfl) rfl (by show 2 * 0 + _ ≤ _; exact Nat.le_of_eq rfl) (hb hby at_132) (fun _ _ => ⟨rfl, e159, (by decide : 4 + 0 ≤ _), (by decide : 20 + 0 ≤ _)⟩)
      dsimp only [Pt.U, Pt.locs, Pt.cells, Pt.slots] at X160 l160 y160 z160 st160 hQ160
      subst l160 y160 z160
      obtain ⟨rfl, M160, e160⟩ := hQ160
      have N160 := Fr.app N159 M160
      refine own_tr (S' := T160.setTop (mkF m 135 #[.val (.int p0), .val (.int p1), .val (.int p2), .val (.int p3), .val (.int p4), .val (.int (4 : Int32)), .val (.int i146), .val (.int i147), .val (.int i148), .val (.int i149), .val (.ref r150), .val (.int i149), .val (.ref r150)] [(.int (StrChars.pairCh (StrChars.lo8 i149) (StrChars.hi8 i149)))])) st160 ?_
      rw [StrChars.pair_says (own_chr gi149).1.1 (own_chr gi149).1.2]
      refine own_st (S' := T160.setTop (mkF m 145 #[.val (.int p0), .val (.int p1), .val (.int p2), .val (.int p3), .val (.int p4), .val (.int (4 : Int32)), .val (.int i146), .val (.int i147), .val (.int i148), .val (.int i149), .val (.ref r150), .val (.int i149), .val (.ref r150)] [(.int (1 : Int32))])) (fun _ k => XS.iload X160.here hx rfl (hb hby at_135) rfl (XS.icmpNo X160.here hx rfl (hb hby at_137) rfl (teq rfl).2 (XS.iconst X160.here hx rfl (hb hby at_140) (XS.goto X160.here hx rfl (pc0 := 141) (pc' := 145) rfl (hb hby at_141) (by decide) (by decide) k)))) ?_
      refine own_ret X160 hx Bd.returns hlk rfl (Or.inl ⟨rfl, (by simp), _, rfl⟩) (hb hby at_145) (by decide) (by decide) ?_
      rw [e160]
      exact ⟨rfl, N160⟩
section OwnCase
variable {args : Array Value} {s : State} {a b t : Term} {v w : Value} {x : Addr}
theorem own_ev (h : (Cond.eq a b).value args s none s [] = some true) (hb : b.eval args s none [] s = some w) (hw : (∃ z, w = .int z) ∨ w.isRef = true) : a.eval args s none [] s = some w := by
  cases ha : a.eval args s none [] s with
  | none => simp [Cond.value, ha] at h
  | some v =>
    rcases hw with ⟨z, rfl⟩ | hw
    · cases v <;> simp_all [Cond.value]
    · cases v <;> cases w <;> simp_all [Cond.value, Value.isRef]
theorem own_exa {C : String} (h : (Cond.exactly t C).value args s none s [] = some true) : ∃ x, t.eval args s none [] s = some (.ref x) ∧ Exa s s.heap x C := by
  obtain ⟨x, hx⟩ := exa_v h
  exact ⟨x, hx, Exa.start hx h⟩
theorem own_exA {C : String} (hx : t.eval args s none [] s = some (.ref x)) (h : (Cond.exactly t C).value args s none s [] = some true) : Exa s s.heap x C := Exa.start hx h
theorem own_fld {C n d : String} (ht : t.eval args s none [] s = some (.ref x)) (h : (Term.field t C n d).eval args s none [] s = some v) : Fld s s.heap x C n d v := Fld.start (by rw [← fld_at ht]; exact h)
def own_Els (args : Array Value) (s : State) (t : Term) : Nat → List Value → Prop
  | _, [] => True
  | i, v :: r => (Term.elem t (Term.int (Int32.ofNat i))).eval args s none [] s = some v ∧ own_Els args s t (i + 1) r
theorem own_hasL {cl : Cell} (ht : t.eval args s none [] s = some (.ref x)) (hc : s.heap[x]? = some cl) : ∀ (vs : List Value) (i : Nat), i + vs.length < 2 ^ 31 → own_Els args s t i vs → HasL cl i vs
  | [], _, _, _ => trivial
  | v :: r, i, hi, H => by
    have hi' : i < 2 ^ 31 := by simp only [List.length_cons] at hi; omega
    have q := (elem_in H.1 ht (Term.int_eval _) hc).2
    have e : (Int32.ofNat i).toNatClampNeg = i := by
      have := Int32.toInt_ofNat_small hi'
      simp only [Int32.toNatClampNeg, this]; omega
    rw [e] at q
    exact ⟨q, own_hasL ht hc r (i + 1) (by simp only [List.length_cons] at hi; omega) H.2⟩
theorem own_arv {ty : FieldType} {z : Int32} {vs : List Value} {dv : Value} (hf : Fit s) (ht : t.eval args s none [] s = some (.ref x)) (hA : (Cond.arrayOf t ty).value args s none s [] = some true) (hL : (Cond.eq (Term.length t) (Term.int z)).value args s none s [] = some true) (hz : ¬ z < 0) (hl : z.toNatClampNeg = vs.length) (hE : own_Els args s t 0 vs) : ∃ k, Arv s s.heap x k ty z vs dv := by
  obtain ⟨c, A⟩ := Arr.start ht hA
  have hlen := own_ev hL (Term.int_eval z) (Or.inl ⟨_, rfl⟩)
  have hat : s.arrayAt? x = some c := A.fin (Vm.Alike.refl _)
  have hb : c.slots.size < 2 ^ 31 ∧ c.slots.size.toInt32 = z := by
    simp only [Term.eval, ht, hat, Option.bind_eq_bind, Option.bind_some] at hlen
    split at hlen
    · rename_i hq
      refine ⟨hq, ?_⟩
      simpa using hlen
    · cases hlen
  have hv : 0 + vs.length < 2 ^ 31 := by
    have := (back32 hz).2; omega
  exact ⟨_, Arv.start hf A hb.1 hb.2 hz hl (own_hasL ht A.1 vs 0 hv hE)⟩
theorem own_neq {y : Addr} (h : (Cond.not (Cond.eq a b)).value args s none s [] = some true) (ha : a.eval args s none [] s = some (.ref x)) (hb : b.eval args s none [] s = some (.ref y)) : x ≠ y := fun q => by
  have := not_v h
  rw [eq_R ha hb rfl rfl] at this
  simp [q] at this
end OwnCase
set_option maxRecDepth 65536 in
set_option maxHeartbeats 40000000 in
theorem comes_1 {Post : Tables → Env → Array Value → State → Outcome → State → Prop} (hpost : ∀ tb e args s v u, (limb_1_1.after args s (.returned v) u = true ∧ limb_1_2.after args s (.returned v) u = true ∧ True) → FrameEnd s (.returned v) u (Jvm.fieldLocs frame_1_writes args s ++ Jvm.arrayLocs frame_1_arrays args s ++ Jvm.staticLocs frame_1_statics s) 16 128 → Post tb e args s (.returned v) u) :
    ArmFor flags0 classFile x code maxLocals ret World_1 tables_1 room_1 Calls_1 rest_1 Pre_1 Post := by
  intro l hfl _ _ p e ha hc hk s m args below hf hA hF happ hP
  obtain ⟨hcalls, hrest, hpre⟩ := hP
  obtain ⟨-, -, -, hnamed, -, -, -, hat⟩ := (Spec.applies_iff hf).mp happ
  obtain ⟨hg, hn⟩ := and_e (Cond.before_iff.mp (show (Jvm.Cond.and given_1 narrow_1).before args s = true from hpre))
  obtain ⟨hcnt, hargs⟩ := and_e hg
  obtain ⟨w0, w1, w2, w3, w4, rfl⟩ : ∃ w0 w1 w2 w3 w4 : Value, args = #[w0, w1, w2, w3, w4] := by
    have hs : args.size = 5 := by simpa [Cond.value, given_1] using hcnt
    obtain ⟨L⟩ := args
    match L, hs with
    | [w0, w1, w2, w3, w4], _ => exact ⟨w0, w1, w2, w3, w4, rfl⟩
  have hw := fun d (hd : d ∈ tables_1) => atoms_spec (ws := Jvm.Cond.code x code maxLocals ret :: tables_1) hat d (List.mem_cons_of_mem _ hd)
  obtain ⟨hsets, hown0⟩ := atoms_of _ (rest_1_c_eq ▸ (show rest_1_c.before _ s = true from hrest))
  have hfit : Fit s := fun {y c} hc i hi => by
    obtain ⟨ha, rfl⟩ := Array.getElem?_eq_some_iff.mp hc
    have q := List.all_eq_true.mp ((Array.all_eq_true_iff_forall_mem.mp hF) _ (Array.getElem_mem ha)) i (List.mem_range.mpr hi)
    simpa [Array.getElem?_eq_getElem hi] using q
  obtain ⟨ga0, gb0⟩ := and_e hargs
  obtain ⟨i0, ei0⟩ := is_v ga0
  obtain rfl : w0 = (.int i0) := Option.some.inj ei0
  obtain ⟨ga1, gb1⟩ := and_e gb0
  obtain ⟨i1, ei1⟩ := is_v ga1
  obtain rfl : w1 = (.int i1) := Option.some.inj ei1
  obtain ⟨ga2, gb2⟩ := and_e gb1
  obtain ⟨i2, ei2⟩ := is_v ga2
  obtain rfl : w2 = (.int i2) := Option.some.inj ei2
  obtain ⟨ga3, gb3⟩ := and_e gb2
  obtain ⟨i3, ei3⟩ := is_v ga3
  obtain rfl : w3 = (.int i3) := Option.some.inj ei3
  obtain ⟨i4, ei4⟩ := is_v gb3
  obtain rfl : w4 = (.int i4) := Option.some.inj ei4
  obtain ⟨G1, eG1⟩ := is_v (Cond.before_iff.mp (hsets _ (List.mem_of_getElem? (i := 1) rfl)))
  have S1 := Sta.start (C := "java/lang/String") (n := "COMPACT_STRINGS") (d := "Z") eG1 (Or.inl (hsets _ (List.mem_of_getElem? (i := 0) rfl)))
  have P1 : ¬ (G1 = (0 : Int32)) := gotF (Cond.eq_ints eG1 (Term.int_eval (0))) (not_v (Cond.before_iff.mp (hsets _ (List.mem_of_getElem? (i := 2) rfl))))
  obtain ⟨G3, eG3, rG3⟩ := isR_v (Cond.before_iff.mp (hsets _ (List.mem_of_getElem? (i := 8) rfl)))
  have S2 := Sta.start (C := "jdk/internal/util/Preconditions") (n := "SIOOBE_FORMATTER") (d := "Ljava/util/function/BiFunction;") eG3 (Or.inl (hsets _ (List.mem_of_getElem? (i := 7) rfl)))
  have v3 := own_ev (Cond.before_iff.mp (hsets _ (List.mem_of_getElem? (i := 12) rfl))) (Term.int_eval (1)) (Or.inl ⟨_, rfl⟩)
  have S4 := Sta.start (C := "java/lang/StringUTF16") (n := "$assertionsDisabled") (d := "Z") v3 (Or.inl (hsets _ (List.mem_of_getElem? (i := 11) rfl)))
  have v5 := own_ev (Cond.before_iff.mp (hsets _ (List.mem_of_getElem? (i := 15) rfl))) (Term.int_eval (0)) (Or.inl ⟨_, rfl⟩)
  have S6 := Sta.start (C := "java/lang/StringUTF16") (n := "HI_BYTE_SHIFT") (d := "I") v5 (Or.inl (hsets _ (List.mem_of_getElem? (i := 14) rfl)))
  have v7 := own_ev (Cond.before_iff.mp (hsets _ (List.mem_of_getElem? (i := 18) rfl))) (Term.int_eval (8)) (Or.inl ⟨_, rfl⟩)
  have S8 := Sta.start (C := "java/lang/StringUTF16") (n := "LO_BYTE_SHIFT") (d := "I") v7 (Or.inl (hsets _ (List.mem_of_getElem? (i := 17) rfl)))
  obtain ⟨n, o, h1, h2, h3, _, L, rfl, ⟨rfl, N⟩, hq⟩ := own_rm_law l s _ hw G1 S1 P1 G3 S2 rG3 S4 S6 S8 tables_1 i0 i1 i2 i3 i4 s.heap s.heap.size (Nat.le_refl _) (Old.start s) p e ha hc hk s m _ below hf ((Spec.applies_iff_loose hf).mp happ).1 ⟨rfl, State.Warmed39.refl s, rfl⟩ trivial
  refine ⟨n, _, h1, h2, h3, hpost _ _ _ _ _ _ ⟨Cond.after_iff.mpr rfl, Cond.after_iff.mpr (eq_i res_at (Term.int_eval (1)) rfl), trivial⟩ ⟨hq.1, hq.2.1, (hq.2.2.sift fun y hy => Or.inr (N y hy)).mono (by decide) (by decide)⟩⟩
theorem main_1_1 : Claimed_1_1 := comes_1 fun _ _ _ _ _ _ h hF => ⟨h.1, hF⟩
theorem main_1_2 : Claimed_1_2 := comes_1 fun _ _ _ _ _ _ h hF => ⟨h.2.1, hF⟩
end Jvm.Pilot.@@N@@
namespace Jvm.Pilot.@@N@@
open Jvm Jvm.ClassFile Sem Op Lib Jvm.Free Jvm.Stand Jvm.Pilot.@@N@@.Jvm.D
/-! MADE BY PROGRAM (witnessworld.py) out of the Statement's table words and the real class files: 20 classes; the members and pool entries that the words name. The judged class is class 1, her method 1. -/
namespace start1
open Jvm.ClassFile
def u (s : String) : CpInfo := .utf8 (stringToUtf16 s)
/-- a pool by its gaps: so many unusable entries, then the entry; so many at the end -/
def gap : Nat → List CpInfo → List CpInfo
  | 0, r => r
  | n + 1, r => .unusable :: gap n r
def poolList (es : List (Nat × CpInfo)) (last : Nat) : List CpInfo := es.foldr (fun e r => gap e.1 (e.2 :: r)) (gap last [])
def pool (es : List (Nat × CpInfo)) (last : Nat) : Array CpInfo := ⟨poolList es last⟩
def fileOf (pool : Array CpInfo) (this : Nat) (attrs : Array Attribute := #[]) (ms : Array MethodInfo := #[]) (fl : Nat := 33) (sup : Nat := 0) (ifs : Array Nat := #[]) (fds : Array FieldInfo := #[]) : ClassFile where
  minorVersion := 0
  majorVersion := 65
  constantPool := pool
  accessFlags := fl
  thisClass := this
  superClass := sup
  interfaces := ifs
  fields := fds
  methods := ms
  attributes := attrs
def plain (name : String) (sup : Option ClassId) : Class where
  name := name
  kind := .ordinary
  loader := none
  accessFlags := 33
  super := sup
  interfaces := #[]
  cf := none
  fields := #[]
  methods := #[]
  instanceTypes := #[]
  staticTypes := #[]
  resolved := #[]
  callSites := []
  init := .initialized
  statics := none
  mirror := none

def pool0 : Array CpInfo := pool [(5, u "<init>"), (0, u "()V"), (1, .class_ 10), (1, u "java/lang/Object")] 113

def k0c0 : Code := { maxStack := 0, maxLocals := 1, code := object_method_1_code, exceptionTable := #[], attributes := #[] }
def k0m0 : Method := { name := "<init>", desc := "()V", sig := { parameters := [], returnType := none }, accessFlags := 1, code := some k0c0 }
/-- java/lang/Object -/
def k0 : Class := { plain "java/lang/Object" none with
  accessFlags := 33
  interfaces := #[]
  cf := some (fileOf pool0 8 #[] #[{ accessFlags := 1, nameIndex := 5, descriptorIndex := 6, attributes := #[] }] 33 0 #[] #[])
  fields := #[]
  methods := #[k0m0]
  instanceTypes := #[]
  staticTypes := #[]
  resolved := Array.replicate 124 none
  statics := none }

def pool1 : Array CpInfo := pool [(2, .class_ 4), (1, u "java/lang/Object"), (0, u "<init>"), (0, u "()V"), (0, .integer 65535), (0, .methodref 9 10), (0, .class_ 11), (0, .nameAndType 12 13), (0, u "com/example/sault/sault/ArgumentsLockNamePinLaw"), (0, u "make"), (0, u "(ICCCC)Ljava/lang/String;"), (0, .methodref 15 16), (0, .class_ 17), (0, .nameAndType 18 19), (0, u "com/example/sault/sault/Arguments"), (0, u "lockName"), (0, u "(Ljava/lang/String;)Ljava/lang/String;"), (0, .methodref 21 22), (0, .class_ 23), (0, .nameAndType 24 25), (0, u "java/lang/String"), (0, u "length"), (0, u "()I"), (0, .methodref 21 27), (0, .nameAndType 28 29), (0, u "charAt"), (0, u "(I)C"), (0, .methodref 21 31), (0, .nameAndType 5 32), (0, u "([C)V"), (2, u "law"), (0, u "(IIIII)Z")] 3

def k1m0 : Method := { name := "<init>", desc := "()V", sig := { parameters := [], returnType := none }, accessFlags := 2, code := none }
def k1c1 : Code := { maxStack := 5, maxLocals := 13, code := code, exceptionTable := #[], attributes := #[] }
def k1m1 : Method := { name := "law", desc := "(IIIII)Z", sig := { parameters := [.int, .int, .int, .int, .int], returnType := some .boolean }, accessFlags := 9, code := some k1c1 }
def k1c2 : Code := { maxStack := 3, maxLocals := 6, code := method_3_code, exceptionTable := #[], attributes := #[] }
def k1m2 : Method := { name := "make", desc := "(ICCCC)Ljava/lang/String;", sig := { parameters := [.int, .char, .char, .char, .char], returnType := some (.object "java/lang/String") }, accessFlags := 10, code := some k1c2 }
/-- com/example/sault/sault/ArgumentsLockNamePinLaw -/
def k1 : Class := { plain "com/example/sault/sault/ArgumentsLockNamePinLaw" (some 0) with
  accessFlags := 49
  interfaces := #[]
  cf := some (fileOf pool1 9 #[] #[{ accessFlags := 2, nameIndex := 5, descriptorIndex := 6, attributes := #[] }, { accessFlags := 9, nameIndex := 35, descriptorIndex := 36, attributes := #[] }, { accessFlags := 10, nameIndex := 12, descriptorIndex := 13, attributes := #[] }] 49 2 #[] #[])
  fields := #[]
  methods := #[k1m0, k1m1, k1m2]
  instanceTypes := #[]
  staticTypes := #[]
  resolved := Array.replicate 40 none
  statics := none }

def pool2 : Array CpInfo := pool [(1, .class_ 2), (0, u "java/io/Serializable"), (0, .class_ 4), (0, u "java/lang/Object")] 2

/-- java/io/Serializable -/
def k2 : Class := { plain "java/io/Serializable" (some 0) with
  accessFlags := 1537
  interfaces := #[]
  cf := some (fileOf pool2 1 #[] #[] 1537 3 #[] #[])
  fields := #[]
  methods := #[]
  instanceTypes := #[]
  staticTypes := #[]
  resolved := Array.replicate 7 none
  statics := none }

def pool3 : Array CpInfo := pool [(1, .class_ 2), (0, u "java/lang/Comparable"), (0, .class_ 4), (0, u "java/lang/Object")] 7

/-- java/lang/Comparable -/
def k3 : Class := { plain "java/lang/Comparable" (some 0) with
  accessFlags := 1537
  interfaces := #[]
  cf := some (fileOf pool3 1 #[] #[] 1537 3 #[] #[])
  fields := #[]
  methods := #[]
  instanceTypes := #[]
  staticTypes := #[]
  resolved := Array.replicate 12 none
  statics := none }

def pool4 : Array CpInfo := pool [(2, .class_ 4), (1, u "java/lang/CharSequence"), (42, .class_ 48), (0, u "java/lang/CharSequence$1CodePointIterator"), (10, .class_ 60), (0, u "java/lang/CharSequence$1CharIterator"), (5, .class_ 67), (0, u "java/lang/Object")] 63

/-- java/lang/CharSequence -/
def k4 : Class := { plain "java/lang/CharSequence" (some 0) with
  accessFlags := 1537
  interfaces := #[]
  cf := some (fileOf pool4 2 #[.nestMembers #[47, 59]] #[] 1537 66 #[] #[])
  fields := #[]
  methods := #[]
  instanceTypes := #[]
  staticTypes := #[]
  resolved := Array.replicate 131 none
  statics := none }

def pool5 : Array CpInfo := pool [(1, .class_ 2), (0, u "java/lang/constant/Constable"), (0, .class_ 4), (0, u "java/lang/Object")] 6

/-- java/lang/constant/Constable -/
def k5 : Class := { plain "java/lang/constant/Constable" (some 0) with
  accessFlags := 1537
  interfaces := #[]
  cf := some (fileOf pool5 1 #[] #[] 1537 3 #[] #[])
  fields := #[]
  methods := #[]
  instanceTypes := #[]
  staticTypes := #[]
  resolved := Array.replicate 11 none
  statics := none }

def pool6 : Array CpInfo := pool [(1, .class_ 2), (0, u "java/lang/constant/ConstantDesc"), (0, .class_ 4), (0, u "java/lang/Object")] 32

/-- java/lang/constant/ConstantDesc -/
def k6 : Class := { plain "java/lang/constant/ConstantDesc" (some 0) with
  accessFlags := 1537
  interfaces := #[]
  cf := some (fileOf pool6 1 #[] #[] 1537 3 #[] #[])
  fields := #[]
  methods := #[]
  instanceTypes := #[]
  staticTypes := #[]
  resolved := Array.replicate 37 none
  statics := none }

def pool7 : Array CpInfo := pool [(1, .methodref 2 3), (0, .class_ 4), (0, .nameAndType 5 6), (0, u "java/lang/Object"), (0, u "<init>"), (0, u "()V"), (2, .fieldref 10 11), (0, .class_ 12), (0, .nameAndType 13 14), (0, u "java/lang/String"), (0, u "value"), (0, u "[B"), (0, .fieldref 10 16), (0, .nameAndType 17 18), (0, u "coder"), (0, u "B"), (2, u "hash"), (0, u "I"), (2, u "hashIsZero"), (0, u "Z"), (0, .methodref 10 28), (0, .nameAndType 5 29), (0, u "([CIILjava/lang/Void;)V"), (8, .fieldref 10 39), (0, .nameAndType 40 26), (0, u "COMPACT_STRINGS"), (1, .class_ 44), (1, u "java/lang/StringUTF16"), (0, u "compress"), (1, .methodref 42 48), (0, .nameAndType 49 50), (0, u "coderFromArrayLen"), (0, u "([BI)B"), (56, .class_ 109), (1, u "java/lang/StringLatin1"), (32, u "()Z"), (34, .methodref 42 178), (0, .nameAndType 45 179), (0, u "([CII)[B"), (154, u "()I"), (0, .methodref 10 336), (0, .nameAndType 17 337), (0, u "()B"), (25, u "([BI)C"), (27, u "(II)V"), (35, u "(I)C"), (64, .methodref 10 493), (0, .nameAndType 494 142), (0, u "isLatin1"), (0, .methodref 107 496), (0, .nameAndType 497 363), (0, u "charAt"), (0, .methodref 42 496), (2, u "checkIndex"), (5, u "length"), (67, .class_ 576), (0, u "java/lang/CharSequence"), (22, u "CASE_INSENSITIVE_ORDER"), (0, u "Ljava/util/Comparator;"), (91, u "isEmpty"), (317, u "([C)V"), (42, .fieldref 1054 1055), (0, .class_ 1056), (0, .nameAndType 1057 1058), (0, u "jdk/internal/util/Preconditions"), (0, u "SIOOBE_FORMATTER"), (0, u "Ljava/util/function/BiFunction;"), (0, .methodref 1054 1060), (0, .nameAndType 501 1061), (0, u "(IILjava/util/function/BiFunction;)I"), (39, u "serialPersistentFields"), (0, u "[Ljava/io/ObjectStreamField;"), (0, .class_ 1104), (0, u "java/lang/String$CaseInsensitiveComparator"), (1, .class_ 1107), (0, u "java/io/Serializable"), (0, .class_ 1109), (0, u "java/lang/Comparable"), (0, .class_ 1111), (0, u "java/lang/constant/Constable"), (0, .class_ 1113), (0, u "java/lang/constant/ConstantDesc"), (2, u "serialVersionUID"), (0, u "J"), (3, u "REPL"), (0, u "C"), (2, u "LATIN1"), (1, u "UTF16")] 323

def k7m0 : Method := { name := "<init>", desc := "()V", sig := { parameters := [], returnType := none }, accessFlags := 1, code := none }
def k7c1 : Code := { maxStack := 5, maxLocals := 2, code := jdk_42_method_3_code, exceptionTable := #[], attributes := #[] }
def k7m1 : Method := { name := "<init>", desc := "([C)V", sig := { parameters := [(.array .char)], returnType := none }, accessFlags := 1, code := some k7c1 }
def k7c2 : Code := { maxStack := 2, maxLocals := 1, code := jdk_42_method_54_code, exceptionTable := #[], attributes := #[] }
def k7m2 : Method := { name := "length", desc := "()I", sig := { parameters := [], returnType := some .int }, accessFlags := 1, code := some k7c2 }
def k7c3 : Code := { maxStack := 1, maxLocals := 1, code := jdk_42_method_55_code, exceptionTable := #[], attributes := #[] }
def k7m3 : Method := { name := "isEmpty", desc := "()Z", sig := { parameters := [], returnType := some .boolean }, accessFlags := 1, code := some k7c3 }
def k7c4 : Code := { maxStack := 2, maxLocals := 2, code := jdk_42_method_56_code, exceptionTable := #[], attributes := #[] }
def k7m4 : Method := { name := "charAt", desc := "(I)C", sig := { parameters := [.int], returnType := some .char }, accessFlags := 1, code := some k7c4 }
def k7c5 : Code := { maxStack := 4, maxLocals := 6, code := jdk_42_method_149_code, exceptionTable := #[], attributes := #[] }
def k7m5 : Method := { name := "<init>", desc := "([CIILjava/lang/Void;)V", sig := { parameters := [(.array .char), .int, .int, (.object "java/lang/Void")], returnType := none }, accessFlags := 2, code := some k7c5 }
def k7c6 : Code := { maxStack := 1, maxLocals := 1, code := jdk_42_method_152_code, exceptionTable := #[], attributes := #[] }
def k7m6 : Method := { name := "coder", desc := "()B", sig := { parameters := [], returnType := some .byte }, accessFlags := 0, code := some k7c6 }
def k7c7 : Code := { maxStack := 1, maxLocals := 1, code := jdk_42_method_154_code, exceptionTable := #[], attributes := #[] }
def k7m7 : Method := { name := "isLatin1", desc := "()Z", sig := { parameters := [], returnType := some .boolean }, accessFlags := 0, code := some k7c7 }
def k7c8 : Code := { maxStack := 3, maxLocals := 2, code := jdk_42_method_155_code, exceptionTable := #[], attributes := #[] }
def k7m8 : Method := { name := "checkIndex", desc := "(II)V", sig := { parameters := [.int, .int], returnType := none }, accessFlags := 8, code := some k7c8 }
/-- java/lang/String -/
def k7 : Class := { plain "java/lang/String" (some 0) with
  accessFlags := 49
  interfaces := #[2, 3, 4, 5, 6]
  cf := some (fileOf pool7 10 #[.nestMembers #[1103]] #[{ accessFlags := 1, nameIndex := 5, descriptorIndex := 6, attributes := #[] }, { accessFlags := 1, nameIndex := 5, descriptorIndex := 1010, attributes := #[] }, { accessFlags := 1, nameIndex := 507, descriptorIndex := 334, attributes := #[] }, { accessFlags := 1, nameIndex := 692, descriptorIndex := 142, attributes := #[] }, { accessFlags := 1, nameIndex := 497, descriptorIndex := 427, attributes := #[] }, { accessFlags := 2, nameIndex := 5, descriptorIndex := 29, attributes := #[] }, { accessFlags := 0, nameIndex := 17, descriptorIndex := 337, attributes := #[] }, { accessFlags := 0, nameIndex := 494, descriptorIndex := 142, attributes := #[] }, { accessFlags := 8, nameIndex := 501, descriptorIndex := 391, attributes := #[] }] 49 2 #[1106, 1108, 575, 1110, 1112] #[{ accessFlags := 18, nameIndex := 13, descriptorIndex := 14, attributes := #[] }, { accessFlags := 18, nameIndex := 17, descriptorIndex := 18, attributes := #[] }, { accessFlags := 2, nameIndex := 21, descriptorIndex := 22, attributes := #[] }, { accessFlags := 2, nameIndex := 25, descriptorIndex := 26, attributes := #[] }, { accessFlags := 26, nameIndex := 1116, descriptorIndex := 1117, attributes := #[] }, { accessFlags := 24, nameIndex := 40, descriptorIndex := 26, attributes := #[] }, { accessFlags := 26, nameIndex := 1101, descriptorIndex := 1102, attributes := #[] }, { accessFlags := 26, nameIndex := 1121, descriptorIndex := 1122, attributes := #[] }, { accessFlags := 25, nameIndex := 599, descriptorIndex := 600, attributes := #[] }, { accessFlags := 24, nameIndex := 1125, descriptorIndex := 18, attributes := #[] }, { accessFlags := 24, nameIndex := 1127, descriptorIndex := 18, attributes := #[] }])
  fields := #[{ name := "value", type := (.array .byte), accessFlags := 18, slot := 0, constantValue := 0 }, { name := "coder", type := .byte, accessFlags := 18, slot := 1, constantValue := 0 }, { name := "hash", type := .int, accessFlags := 2, slot := 2, constantValue := 0 }, { name := "hashIsZero", type := .boolean, accessFlags := 2, slot := 3, constantValue := 0 }, { name := "serialVersionUID", type := .long, accessFlags := 26, slot := 0, constantValue := 0 }, { name := "COMPACT_STRINGS", type := .boolean, accessFlags := 24, slot := 1, constantValue := 0 }, { name := "serialPersistentFields", type := (.array (.object "java/io/ObjectStreamField")), accessFlags := 26, slot := 2, constantValue := 0 }, { name := "REPL", type := .char, accessFlags := 26, slot := 3, constantValue := 0 }, { name := "CASE_INSENSITIVE_ORDER", type := (.object "java/util/Comparator"), accessFlags := 25, slot := 4, constantValue := 0 }, { name := "LATIN1", type := .byte, accessFlags := 24, slot := 5, constantValue := 0 }, { name := "UTF16", type := .byte, accessFlags := 24, slot := 6, constantValue := 0 }]
  methods := #[k7m0, k7m1, k7m2, k7m3, k7m4, k7m5, k7m6, k7m7, k7m8]
  instanceTypes := #[(.array .byte), .byte, .int, .boolean]
  staticTypes := #[.long, .boolean, (.array (.object "java/io/ObjectStreamField")), .char, (.object "java/util/Comparator"), .byte, .byte]
  resolved := Array.replicate 1451 none
  statics := some 0 }

def pool8 : Array CpInfo := pool [(3, .class_ 4), (0, u "java/lang/String"), (1, .class_ 8), (1, u "java/lang/Object"), (0, u "<init>"), (0, u "()V"), (0, .methodref 12 13), (0, .class_ 14), (0, .nameAndType 15 16), (0, u "java/lang/StringUTF16"), (0, u "newBytesLength"), (0, u "(I)I"), (3, .integer 1073741823), (23, .fieldref 12 45), (0, .nameAndType 46 47), (0, u "$assertionsDisabled"), (0, u "Z"), (0, .methodref 12 49), (0, .nameAndType 50 51), (0, u "length"), (0, u "([B)I"), (7, .fieldref 12 60), (0, .nameAndType 61 62), (0, u "HI_BYTE_SHIFT"), (0, u "I"), (0, .fieldref 12 64), (0, .nameAndType 65 62), (0, u "LO_BYTE_SHIFT"), (1, .methodref 12 68), (0, .nameAndType 69 70), (0, u "checkIndex"), (0, u "(I[B)V"), (0, .methodref 12 72), (0, .nameAndType 73 74), (0, u "getChar"), (0, u "([BI)C"), (32, .methodref 12 108), (0, .nameAndType 109 110), (0, u "newBytesFor"), (0, u "(I)[B"), (0, .methodref 12 112), (0, .nameAndType 113 114), (0, u "putChar"), (0, u "([BII)V"), (0, .methodref 12 116), (0, .nameAndType 117 118), (0, u "compress"), (0, u "([CI[BII)I"), (0, .methodref 12 120), (0, .nameAndType 121 122), (0, u "toBytes"), (0, u "([CII)[B"), (138, u "coderFromArrayLen"), (0, u "([BI)B"), (106, .class_ 371), (1, u "java/lang/StringUTF16$LinesSpliterator"), (20, u "charAt"), (21, .methodref 3 415), (0, .nameAndType 69 416), (0, u "(II)V"), (13, u "MAX_LENGTH"), (196, .class_ 628), (0, u "java/lang/StringUTF16$CodePointsSpliterator"), (0, .class_ 630), (0, u "java/lang/StringUTF16$CharsSpliterator")] 4

def k8m0 : Method := { name := "<init>", desc := "()V", sig := { parameters := [], returnType := none }, accessFlags := 0, code := none }
def k8c1 : Code := { maxStack := 1, maxLocals := 1, code := jdk_52_method_2_code, exceptionTable := #[], attributes := #[] }
def k8m1 : Method := { name := "newBytesFor", desc := "(I)[B", sig := { parameters := [.int], returnType := some (.array .byte) }, accessFlags := 9, code := some k8c1 }
def k8c2 : Code := { maxStack := 4, maxLocals := 1, code := jdk_52_method_3_code, exceptionTable := #[], attributes := #[] }
def k8m2 : Method := { name := "newBytesLength", desc := "(I)I", sig := { parameters := [.int], returnType := some .int }, accessFlags := 9, code := some k8c2 }
def k8c3 : Code := { maxStack := 4, maxLocals := 3, code := jdk_52_method_4_code, exceptionTable := #[], attributes := #[] }
def k8m3 : Method := { name := "putChar", desc := "([BII)V", sig := { parameters := [(.array .byte), .int, .int], returnType := none }, accessFlags := 8, code := some k8c3 }
def k8c4 : Code := { maxStack := 3, maxLocals := 2, code := jdk_52_method_5_code, exceptionTable := #[], attributes := #[] }
def k8m4 : Method := { name := "getChar", desc := "([BI)C", sig := { parameters := [(.array .byte), .int], returnType := some .char }, accessFlags := 8, code := some k8c4 }
def k8c5 : Code := { maxStack := 2, maxLocals := 1, code := jdk_52_method_6_code, exceptionTable := #[], attributes := #[] }
def k8m5 : Method := { name := "length", desc := "([B)I", sig := { parameters := [(.array .byte)], returnType := some .int }, accessFlags := 9, code := some k8c5 }
def k8c6 : Code := { maxStack := 4, maxLocals := 5, code := jdk_52_method_14_code, exceptionTable := #[], attributes := #[] }
def k8m6 : Method := { name := "toBytes", desc := "([CII)[B", sig := { parameters := [(.array .char), .int, .int], returnType := some (.array .byte) }, accessFlags := 9, code := some k8c6 }
def k8c7 : Code := { maxStack := 2, maxLocals := 2, code := jdk_52_method_15_code, exceptionTable := #[], attributes := #[] }
def k8m7 : Method := { name := "coderFromArrayLen", desc := "([BI)B", sig := { parameters := [(.array .byte), .int], returnType := some .byte }, accessFlags := 8, code := some k8c7 }
def k8c8 : Code := { maxStack := 5, maxLocals := 6, code := jdk_52_method_16_code, exceptionTable := #[], attributes := #[] }
def k8m8 : Method := { name := "compress", desc := "([CII)[B", sig := { parameters := [(.array .char), .int, .int], returnType := some (.array .byte) }, accessFlags := 9, code := some k8c8 }
def k8c9 : Code := { maxStack := 3, maxLocals := 7, code := jdk_52_method_21_code, exceptionTable := #[], attributes := #[] }
def k8m9 : Method := { name := "compress", desc := "([CI[BII)I", sig := { parameters := [(.array .char), .int, (.array .byte), .int, .int], returnType := some .int }, accessFlags := 9, code := some k8c9 }
def k8c10 : Code := { maxStack := 2, maxLocals := 2, code := jdk_52_method_83_code, exceptionTable := #[], attributes := #[] }
def k8m10 : Method := { name := "charAt", desc := "([BI)C", sig := { parameters := [(.array .byte), .int], returnType := some .char }, accessFlags := 9, code := some k8c10 }
def k8c11 : Code := { maxStack := 2, maxLocals := 2, code := jdk_52_method_91_code, exceptionTable := #[], attributes := #[] }
def k8m11 : Method := { name := "checkIndex", desc := "(I[B)V", sig := { parameters := [.int, (.array .byte)], returnType := none }, accessFlags := 9, code := some k8c11 }
/-- java/lang/StringUTF16 -/
def k8 : Class := { plain "java/lang/StringUTF16" (some 0) with
  accessFlags := 48
  interfaces := #[]
  cf := some (fileOf pool8 12 #[.nestMembers #[627, 629, 369]] #[{ accessFlags := 0, nameIndex := 9, descriptorIndex := 10, attributes := #[] }, { accessFlags := 9, nameIndex := 109, descriptorIndex := 110, attributes := #[] }, { accessFlags := 9, nameIndex := 15, descriptorIndex := 16, attributes := #[] }, { accessFlags := 8, nameIndex := 113, descriptorIndex := 114, attributes := #[] }, { accessFlags := 8, nameIndex := 73, descriptorIndex := 74, attributes := #[] }, { accessFlags := 9, nameIndex := 50, descriptorIndex := 51, attributes := #[] }, { accessFlags := 9, nameIndex := 121, descriptorIndex := 122, attributes := #[] }, { accessFlags := 8, nameIndex := 261, descriptorIndex := 262, attributes := #[] }, { accessFlags := 9, nameIndex := 117, descriptorIndex := 122, attributes := #[] }, { accessFlags := 9, nameIndex := 117, descriptorIndex := 118, attributes := #[] }, { accessFlags := 9, nameIndex := 392, descriptorIndex := 74, attributes := #[] }, { accessFlags := 9, nameIndex := 69, descriptorIndex := 70, attributes := #[] }] 48 6 #[] #[{ accessFlags := 26, nameIndex := 61, descriptorIndex := 62, attributes := #[] }, { accessFlags := 26, nameIndex := 65, descriptorIndex := 62, attributes := #[] }, { accessFlags := 24, nameIndex := 430, descriptorIndex := 62, attributes := #[] }, { accessFlags := 4120, nameIndex := 46, descriptorIndex := 47, attributes := #[] }])
  fields := #[{ name := "HI_BYTE_SHIFT", type := .int, accessFlags := 26, slot := 0, constantValue := 0 }, { name := "LO_BYTE_SHIFT", type := .int, accessFlags := 26, slot := 1, constantValue := 0 }, { name := "MAX_LENGTH", type := .int, accessFlags := 24, slot := 2, constantValue := 0 }, { name := "$assertionsDisabled", type := .boolean, accessFlags := 4120, slot := 3, constantValue := 0 }]
  methods := #[k8m0, k8m1, k8m2, k8m3, k8m4, k8m5, k8m6, k8m7, k8m8, k8m9, k8m10, k8m11]
  instanceTypes := #[]
  staticTypes := #[.int, .int, .int, .boolean]
  resolved := Array.replicate 635 none
  statics := some 1 }

def pool9 : Array CpInfo := pool [(2, .class_ 4), (1, u "java/lang/Object"), (0, u "<init>"), (0, u "()V"), (0, .methodref 8 9), (0, .class_ 10), (0, .nameAndType 11 12), (0, u "java/lang/String"), (0, u "isEmpty"), (0, u "()Z"), (9, u "(Ljava/lang/String;)Ljava/lang/String;"), (6, .class_ 31), (1, u "com/example/sault/sault/Arguments"), (55, u "lockName")] 25

def k9m0 : Method := { name := "<init>", desc := "()V", sig := { parameters := [], returnType := none }, accessFlags := 2, code := none }
def k9c1 : Code := { maxStack := 3, maxLocals := 1, code := prog_1_method_2_code, exceptionTable := #[], attributes := #[] }
def k9m1 : Method := { name := "lockName", desc := "(Ljava/lang/String;)Ljava/lang/String;", sig := { parameters := [(.object "java/lang/String")], returnType := some (.object "java/lang/String") }, accessFlags := 8, code := some k9c1 }
/-- com/example/sault/sault/Arguments -/
def k9 : Class := { plain "com/example/sault/sault/Arguments" (some 0) with
  accessFlags := 48
  interfaces := #[]
  cf := some (fileOf pool9 29 #[] #[{ accessFlags := 2, nameIndex := 5, descriptorIndex := 6, attributes := #[] }, { accessFlags := 8, nameIndex := 87, descriptorIndex := 22, attributes := #[] }] 48 2 #[] #[])
  fields := #[]
  methods := #[k9m0, k9m1]
  instanceTypes := #[]
  staticTypes := #[]
  resolved := Array.replicate 113 none
  statics := none }

def pool10 : Array CpInfo := pool [(1, .class_ 2), (0, u "java/lang/String"), (1, .class_ 6), (1, u "java/lang/Object"), (0, u "<init>"), (0, u "()V"), (0, .methodref 1 10), (0, .nameAndType 11 12), (0, u "checkIndex"), (0, u "(II)V"), (1, .class_ 16), (1, u "java/lang/StringLatin1"), (36, u "([BI)C"), (67, u "$assertionsDisabled"), (0, u "Z"), (98, .class_ 223), (1, u "java/lang/StringLatin1$LinesSpliterator"), (28, u "charAt"), (137, .class_ 391), (0, u "java/lang/StringLatin1$CharsSpliterator")] 3

def k10m0 : Method := { name := "<init>", desc := "()V", sig := { parameters := [], returnType := none }, accessFlags := 0, code := none }
def k10c1 : Code := { maxStack := 2, maxLocals := 2, code := jdk_43_method_2_code, exceptionTable := #[], attributes := #[] }
def k10m1 : Method := { name := "charAt", desc := "([BI)C", sig := { parameters := [(.array .byte), .int], returnType := some .char }, accessFlags := 9, code := some k10c1 }
/-- java/lang/StringLatin1 -/
def k10 : Class := { plain "java/lang/StringLatin1" (some 0) with
  accessFlags := 48
  interfaces := #[]
  cf := some (fileOf pool10 14 #[.nestMembers #[390, 221]] #[{ accessFlags := 0, nameIndex := 7, descriptorIndex := 8, attributes := #[] }, { accessFlags := 9, nameIndex := 252, descriptorIndex := 53, attributes := #[] }] 48 4 #[] #[{ accessFlags := 4120, nameIndex := 121, descriptorIndex := 122, attributes := #[] }])
  fields := #[{ name := "$assertionsDisabled", type := .boolean, accessFlags := 4120, slot := 0, constantValue := 0 }]
  methods := #[k10m0, k10m1]
  instanceTypes := #[]
  staticTypes := #[.boolean]
  resolved := Array.replicate 395 none
  statics := none }

def pool11 : Array CpInfo := pool [(2, .class_ 4), (1, u "java/lang/Object"), (0, u "<init>"), (0, u "()V"), (17, .class_ 26), (1, u "jdk/internal/util/Preconditions"), (6, u "checkIndex"), (21, .class_ 56), (0, u "jdk/internal/util/Preconditions$4"), (57, .class_ 115), (0, u "jdk/internal/util/Preconditions$1"), (7, u "SIOOBE_FORMATTER"), (0, u "Ljava/util/function/BiFunction;"), (0, .class_ 126), (0, u "jdk/internal/util/Preconditions$2"), (3, u "AIOOBE_FORMATTER"), (0, .class_ 132), (0, u "jdk/internal/util/Preconditions$3"), (3, u "IOOBE_FORMATTER"), (41, u "(IILjava/util/function/BiFunction;)I")] 15

def k11m0 : Method := { name := "<init>", desc := "()V", sig := { parameters := [], returnType := none }, accessFlags := 1, code := none }
def k11c1 : Code := { maxStack := 3, maxLocals := 3, code := jdk_41_method_11_code, exceptionTable := #[], attributes := #[] }
def k11m1 : Method := { name := "checkIndex", desc := "(IILjava/util/function/BiFunction;)I", sig := { parameters := [.int, .int, (.object "java/util/function/BiFunction")], returnType := some .int }, accessFlags := 9, code := some k11c1 }
/-- jdk/internal/util/Preconditions -/
def k11 : Class := { plain "jdk/internal/util/Preconditions" (some 0) with
  accessFlags := 33
  interfaces := #[]
  cf := some (fileOf pool11 24 #[.nestMembers #[55, 131, 125, 114]] #[{ accessFlags := 1, nameIndex := 5, descriptorIndex := 6, attributes := #[] }, { accessFlags := 9, nameIndex := 33, descriptorIndex := 178, attributes := #[] }] 33 2 #[] #[{ accessFlags := 25, nameIndex := 123, descriptorIndex := 124, attributes := #[] }, { accessFlags := 25, nameIndex := 130, descriptorIndex := 124, attributes := #[] }, { accessFlags := 25, nameIndex := 136, descriptorIndex := 124, attributes := #[] }])
  fields := #[{ name := "SIOOBE_FORMATTER", type := (.object "java/util/function/BiFunction"), accessFlags := 25, slot := 0, constantValue := 0 }, { name := "AIOOBE_FORMATTER", type := (.object "java/util/function/BiFunction"), accessFlags := 25, slot := 1, constantValue := 0 }, { name := "IOOBE_FORMATTER", type := (.object "java/util/function/BiFunction"), accessFlags := 25, slot := 2, constantValue := 0 }]
  methods := #[k11m0, k11m1]
  instanceTypes := #[]
  staticTypes := #[(.object "java/util/function/BiFunction"), (.object "java/util/function/BiFunction"), (.object "java/util/function/BiFunction")]
  resolved := Array.replicate 194 none
  statics := some 2 }

def pool12 : Array CpInfo := pool [(9, u "<init>"), (6, .class_ 18), (1, u "java/lang/Object"), (0, u "()V"), (1, .class_ 23), (1, u "jdk/internal/util/ArraysSupport"), (0, u "LOG2_ARRAY_LONG_INDEX_SCALE"), (0, u "I"), (2, u "U"), (0, u "Ljdk/internal/misc/Unsafe;"), (8, u "BIG_ENDIAN"), (0, u "Z"), (8, u "LOG2_BYTE_BIT_SIZE"), (4, u "LOG2_ARRAY_INT_INDEX_SCALE"), (54, u "JLA"), (0, u "Ljdk/internal/access/JavaLangAccess;"), (11, u "LOG2_ARRAY_BOOLEAN_INDEX_SCALE"), (9, u "LOG2_ARRAY_BYTE_INDEX_SCALE"), (5, u "LOG2_ARRAY_CHAR_INDEX_SCALE"), (5, u "LOG2_ARRAY_SHORT_INDEX_SCALE"), (18, u "LOG2_ARRAY_FLOAT_INDEX_SCALE"), (24, u "LOG2_ARRAY_DOUBLE_INDEX_SCALE"), (89, u "T_BOOLEAN"), (2, u "T_CHAR"), (1, u "T_FLOAT"), (1, u "T_DOUBLE"), (1, u "T_BYTE"), (1, u "T_SHORT"), (1, u "T_INT"), (1, u "T_LONG"), (1, u "SOFT_MAX_ARRAY_LENGTH")] 83

def k12m0 : Method := { name := "<init>", desc := "()V", sig := { parameters := [], returnType := none }, accessFlags := 2, code := none }
/-- jdk/internal/util/ArraysSupport -/
def k12 : Class := { plain "jdk/internal/util/ArraysSupport" (some 0) with
  accessFlags := 33
  interfaces := #[]
  cf := some (fileOf pool12 21 #[] #[{ accessFlags := 2, nameIndex := 9, descriptorIndex := 19, attributes := #[] }] 33 16 #[] #[{ accessFlags := 24, nameIndex := 28, descriptorIndex := 29, attributes := #[] }, { accessFlags := 26, nameIndex := 38, descriptorIndex := 39, attributes := #[] }, { accessFlags := 25, nameIndex := 121, descriptorIndex := 25, attributes := #[] }, { accessFlags := 25, nameIndex := 131, descriptorIndex := 25, attributes := #[] }, { accessFlags := 25, nameIndex := 137, descriptorIndex := 25, attributes := #[] }, { accessFlags := 25, nameIndex := 143, descriptorIndex := 25, attributes := #[] }, { accessFlags := 25, nameIndex := 53, descriptorIndex := 25, attributes := #[] }, { accessFlags := 25, nameIndex := 24, descriptorIndex := 25, attributes := #[] }, { accessFlags := 25, nameIndex := 162, descriptorIndex := 25, attributes := #[] }, { accessFlags := 25, nameIndex := 187, descriptorIndex := 25, attributes := #[] }, { accessFlags := 26, nameIndex := 48, descriptorIndex := 25, attributes := #[] }, { accessFlags := 25, nameIndex := 277, descriptorIndex := 25, attributes := #[] }, { accessFlags := 25, nameIndex := 280, descriptorIndex := 25, attributes := #[] }, { accessFlags := 25, nameIndex := 282, descriptorIndex := 25, attributes := #[] }, { accessFlags := 25, nameIndex := 284, descriptorIndex := 25, attributes := #[] }, { accessFlags := 25, nameIndex := 286, descriptorIndex := 25, attributes := #[] }, { accessFlags := 25, nameIndex := 288, descriptorIndex := 25, attributes := #[] }, { accessFlags := 25, nameIndex := 290, descriptorIndex := 25, attributes := #[] }, { accessFlags := 25, nameIndex := 292, descriptorIndex := 25, attributes := #[] }, { accessFlags := 26, nameIndex := 108, descriptorIndex := 109, attributes := #[] }, { accessFlags := 25, nameIndex := 294, descriptorIndex := 25, attributes := #[] }])
  fields := #[{ name := "U", type := (.object "jdk/internal/misc/Unsafe"), accessFlags := 24, slot := 0, constantValue := 0 }, { name := "BIG_ENDIAN", type := .boolean, accessFlags := 26, slot := 1, constantValue := 0 }, { name := "LOG2_ARRAY_BOOLEAN_INDEX_SCALE", type := .int, accessFlags := 25, slot := 2, constantValue := 0 }, { name := "LOG2_ARRAY_BYTE_INDEX_SCALE", type := .int, accessFlags := 25, slot := 3, constantValue := 0 }, { name := "LOG2_ARRAY_CHAR_INDEX_SCALE", type := .int, accessFlags := 25, slot := 4, constantValue := 0 }, { name := "LOG2_ARRAY_SHORT_INDEX_SCALE", type := .int, accessFlags := 25, slot := 5, constantValue := 0 }, { name := "LOG2_ARRAY_INT_INDEX_SCALE", type := .int, accessFlags := 25, slot := 6, constantValue := 0 }, { name := "LOG2_ARRAY_LONG_INDEX_SCALE", type := .int, accessFlags := 25, slot := 7, constantValue := 0 }, { name := "LOG2_ARRAY_FLOAT_INDEX_SCALE", type := .int, accessFlags := 25, slot := 8, constantValue := 0 }, { name := "LOG2_ARRAY_DOUBLE_INDEX_SCALE", type := .int, accessFlags := 25, slot := 9, constantValue := 0 }, { name := "LOG2_BYTE_BIT_SIZE", type := .int, accessFlags := 26, slot := 10, constantValue := 0 }, { name := "T_BOOLEAN", type := .int, accessFlags := 25, slot := 11, constantValue := 0 }, { name := "T_CHAR", type := .int, accessFlags := 25, slot := 12, constantValue := 0 }, { name := "T_FLOAT", type := .int, accessFlags := 25, slot := 13, constantValue := 0 }, { name := "T_DOUBLE", type := .int, accessFlags := 25, slot := 14, constantValue := 0 }, { name := "T_BYTE", type := .int, accessFlags := 25, slot := 15, constantValue := 0 }, { name := "T_SHORT", type := .int, accessFlags := 25, slot := 16, constantValue := 0 }, { name := "T_INT", type := .int, accessFlags := 25, slot := 17, constantValue := 0 }, { name := "T_LONG", type := .int, accessFlags := 25, slot := 18, constantValue := 0 }, { name := "JLA", type := (.object "jdk/internal/access/JavaLangAccess"), accessFlags := 26, slot := 19, constantValue := 0 }, { name := "SOFT_MAX_ARRAY_LENGTH", type := .int, accessFlags := 25, slot := 20, constantValue := 0 }]
  methods := #[k12m0]
  instanceTypes := #[]
  staticTypes := #[(.object "jdk/internal/misc/Unsafe"), .boolean, .int, .int, .int, .int, .int, .int, .int, .int, .int, .int, .int, .int, .int, .int, .int, .int, .int, (.object "jdk/internal/access/JavaLangAccess"), .int]
  resolved := Array.replicate 378 none
  statics := none }

def pool13 : Array CpInfo := pool [(1, u "java/lang/Cloneable"), (0, .class_ 1), (0, u "java/lang/Object"), (0, .class_ 3)] 3

/-- java/lang/Cloneable -/
def k13 : Class := { plain "java/lang/Cloneable" (some 0) with
  accessFlags := 1537
  interfaces := #[]
  cf := some (fileOf pool13 2 #[] #[] 1537 4 #[] #[])
  fields := #[]
  methods := #[]
  instanceTypes := #[]
  staticTypes := #[]
  resolved := Array.replicate 8 none
  statics := none }

/-- the primitive byte -/
def k14 : Class := { plain "byte" none with kind := .primitive 'B', accessFlags := 0x411 }
/-- [B -/
def k15 : Class := { plain "[B" (some 0) with kind := .array 14 .byte, interfaces := #[13, 2], accessFlags := 1041 }

/-- the primitive char -/
def k16 : Class := { plain "char" none with kind := .primitive 'C', accessFlags := 0x411 }
/-- [C -/
def k17 : Class := { plain "[C" (some 0) with kind := .array 16 .char, interfaces := #[13, 2], accessFlags := 1041 }

/-- the primitive int -/
def k18 : Class := { plain "int" none with kind := .primitive 'I', accessFlags := 0x411 }
/-- [I -/
def k19 : Class := { plain "[I" (some 0) with kind := .array 18 .int, interfaces := #[13, 2], accessFlags := 1041 }

def heap : Heap := #[{ cls := 7, slots := #[.long 0, .int 1, .null, .int 0, .null, .int 0, .int 0], vm := .statics 7 },
  { cls := 8, slots := #[.int 0, .int 8, .int 0, .int 1], vm := .statics 8 },
  { cls := 11, slots := #[.null, .null, .null], vm := .statics 11 }]
def classes : Array Class := #[k0, k1, k2, k3, k4, k5, k6, k7, k8, k9, k10, k11, k12, k13, k14, k15, k16, k17, k18, k19]
def interned : List (Array UInt16 × Addr) := []
def slotsUsed : Nat := 14
def theMethod : MethodId := ⟨1, 1⟩
def args0 : Array Value := #[.int 5, .int 6, .int 7, .int 8, .int 9]
def aboutOver (below : List Frame) : State where
  vm := { classes := classes, interned := interned.toArray }
  heap := heap
  slotsUsed := slotsUsed
  threads := #[{ frames := .invoking theMethod args0 :: below }]
def below0 : List Frame := [.native { method := ⟨0, 0⟩, args := #[] }]
def about1 : State := aboutOver below0
def p0 : Program := .bare "" "" ""
def e0 : Env := launch0.env 0 0 0
theorem w_frames : about1.frames = Frame.invoking theMethod args0 :: below0 := rfl
set_option maxRecDepth 65536 in
theorem w_args : argsFit about1.vm theMethod args0 = true := by decide +kernel
set_option maxRecDepth 65536 in
theorem w_heap : heapFits about1 = true := by decide +kernel
set_option maxRecDepth 65536 in
theorem w_runnable : about1.curStatus? = some .runnable := by decide +kernel
set_option maxRecDepth 65536 in
theorem w_alone : about1.alone = true := by decide +kernel
set_option maxRecDepth 65536 in
theorem w_named : about1.methodNamed? x = some theMethod := by decide +kernel
set_option maxRecDepth 65536 in
theorem w_hears : about1.hears theMethod below0 = true := by decide +kernel
set_option maxRecDepth 65536 in
theorem w_ripe : about1.ripe theMethod args0 below0 = true := by decide +kernel
theorem w_running : about1.status = .running := rfl
set_option maxRecDepth 65536 in
theorem w_room : about1.hasRoom e0.platform room_1 = true :=
  launch0.hasRoom_least _ room_1 (by decide +kernel) (by decide +kernel) (by decide +kernel) (by decide +kernel) (by decide +kernel) (by decide +kernel)
theorem allAtoms_all (ts : List Jvm.Cond) (a : Array Jvm.Value) (st : Jvm.State) : (allAtoms ts).before a st = ts.all (fun c => c.before a st) := by
  induction ts with
  | nil => rfl
  | cons c t ih =>
    show (Jvm.Cond.and c (allAtoms t)).before a st = _
    rw [Jvm.Cond.before_and, ih, List.all_cons]
def words1 : List Jvm.Cond := Jvm.Cond.code x code maxLocals ret :: tables_1
/-- a 'code' word, met by the world's own term for the bytes: nothing is compared byte by byte -/
theorem code_word {y : MethodName} {bytes : ByteArray} {mx : Nat} {rt : Option FieldType} {a : Array Value} {s : State} {m : MethodId} {meth : Method} {c : Code} (h1 : s.methodNamed? y = some m) (h2 : s.vm.method? m = some meth) (h3 : meth.code = some c) (h4 : c.code = bytes)
    (h5 : (c.maxLocals == mx && c.exceptionTable.isEmpty && decide (c.maxStack ≤ mostOperands) && decide (meth.sig.returnType = rt) && !meth.locks && decide (parseMethodDescriptor y.desc = some meth.sig)) = true) : (Jvm.Cond.code y bytes mx rt).before a s = true := by
  simp only [Bool.and_eq_true, beq_iff_eq, Bool.not_eq_true', decide_eq_true_eq] at h5
  obtain ⟨⟨⟨⟨⟨g1, g2⟩, g3⟩, g4⟩, g5⟩, g6⟩ := h5
  simp [Cond.before, Cond.holds, Cond.value, h1, h2, h3, h4, g1, g2, g3, g4, g5, g6]
def isCode : Jvm.Cond → Bool
  | .code _ _ _ _ => true
  | _ => false
theorem all_split {L : List Jvm.Cond} {P : Jvm.Cond → Bool} (h1 : L.all (fun c => isCode c || P c) = true) (h2 : ∀ c ∈ L.filter isCode, P c = true) : L.all P = true := by
  refine List.all_eq_true.mpr fun c hc => ?_
  have h := List.all_eq_true.mp h1 c hc
  rcases Bool.eq_false_or_eq_true (isCode c) with hi | hi
  · exact h2 c (List.mem_filter.mpr ⟨hc, hi⟩)
  · simpa [hi] using h
set_option maxRecDepth 65536 in
theorem w_c0 : (Jvm.Cond.code x code maxLocals ret).before args0 about1 = true := code_word (m := ⟨1, 1⟩) (meth := k1m1) (c := k1c1) (by decide +kernel) rfl rfl rfl (by decide +kernel)
set_option maxRecDepth 65536 in
theorem w_c1 : (Jvm.Cond.code ({ cls := "com/example/sault/sault/ArgumentsLockNamePinLaw", name := "make", desc := "(ICCCC)Ljava/lang/String;" } : Jvm.MethodName) method_3_code (6 : Nat) (Option.some (Jvm.ClassFile.FieldType.object "java/lang/String"))).before args0 about1 = true := code_word (m := ⟨1, 2⟩) (meth := k1m2) (c := k1c2) (by decide +kernel) rfl rfl rfl (by decide +kernel)
set_option maxRecDepth 65536 in
theorem w_c2 : (Jvm.Cond.code ({ cls := "java/lang/String", name := "<init>", desc := "([C)V" } : Jvm.MethodName) jdk_42_method_3_code (2 : Nat) (Option.none : Option Jvm.ClassFile.FieldType)).before args0 about1 = true := code_word (m := ⟨7, 1⟩) (meth := k7m1) (c := k7c1) (by decide +kernel) rfl rfl rfl (by decide +kernel)
set_option maxRecDepth 65536 in
theorem w_c3 : (Jvm.Cond.code ({ cls := "java/lang/String", name := "<init>", desc := "([CIILjava/lang/Void;)V" } : Jvm.MethodName) jdk_42_method_149_code (6 : Nat) (Option.none : Option Jvm.ClassFile.FieldType)).before args0 about1 = true := code_word (m := ⟨7, 5⟩) (meth := k7m5) (c := k7c5) (by decide +kernel) rfl rfl rfl (by decide +kernel)
set_option maxRecDepth 65536 in
theorem w_c4 : (Jvm.Cond.code ({ cls := "java/lang/Object", name := "<init>", desc := "()V" } : Jvm.MethodName) object_method_1_code (1 : Nat) (Option.none : Option Jvm.ClassFile.FieldType)).before args0 about1 = true := code_word (m := ⟨0, 0⟩) (meth := k0m0) (c := k0c0) (by decide +kernel) rfl rfl rfl (by decide +kernel)
set_option maxRecDepth 65536 in
theorem w_c5 : (Jvm.Cond.code ({ cls := "java/lang/StringUTF16", name := "compress", desc := "([CII)[B" } : Jvm.MethodName) jdk_52_method_16_code (6 : Nat) (Option.some (Jvm.ClassFile.FieldType.array Jvm.ClassFile.FieldType.byte))).before args0 about1 = true := code_word (m := ⟨8, 8⟩) (meth := k8m8) (c := k8c8) (by decide +kernel) rfl rfl rfl (by decide +kernel)
set_option maxRecDepth 65536 in
theorem w_c6 : (Jvm.Cond.code ({ cls := "java/lang/StringUTF16", name := "compress", desc := "([CI[BII)I" } : Jvm.MethodName) jdk_52_method_21_code (7 : Nat) (Option.some Jvm.ClassFile.FieldType.int)).before args0 about1 = true := code_word (m := ⟨8, 9⟩) (meth := k8m9) (c := k8c9) (by decide +kernel) rfl rfl rfl (by decide +kernel)
set_option maxRecDepth 65536 in
theorem w_c7 : (Jvm.Cond.code ({ cls := "java/lang/StringUTF16", name := "coderFromArrayLen", desc := "([BI)B" } : Jvm.MethodName) jdk_52_method_15_code (2 : Nat) (Option.some Jvm.ClassFile.FieldType.byte)).before args0 about1 = true := code_word (m := ⟨8, 7⟩) (meth := k8m7) (c := k8c7) (by decide +kernel) rfl rfl rfl (by decide +kernel)
set_option maxRecDepth 65536 in
theorem w_c8 : (Jvm.Cond.code ({ cls := "com/example/sault/sault/Arguments", name := "lockName", desc := "(Ljava/lang/String;)Ljava/lang/String;" } : Jvm.MethodName) prog_1_method_2_code (1 : Nat) (Option.some (Jvm.ClassFile.FieldType.object "java/lang/String"))).before args0 about1 = true := code_word (m := ⟨9, 1⟩) (meth := k9m1) (c := k9c1) (by decide +kernel) rfl rfl rfl (by decide +kernel)
set_option maxRecDepth 65536 in
theorem w_c9 : (Jvm.Cond.code ({ cls := "java/lang/String", name := "isEmpty", desc := "()Z" } : Jvm.MethodName) jdk_42_method_55_code (1 : Nat) (Option.some Jvm.ClassFile.FieldType.boolean)).before args0 about1 = true := code_word (m := ⟨7, 3⟩) (meth := k7m3) (c := k7c3) (by decide +kernel) rfl rfl rfl (by decide +kernel)
set_option maxRecDepth 65536 in
theorem w_c10 : (Jvm.Cond.code ({ cls := "java/lang/String", name := "length", desc := "()I" } : Jvm.MethodName) jdk_42_method_54_code (1 : Nat) (Option.some Jvm.ClassFile.FieldType.int)).before args0 about1 = true := code_word (m := ⟨7, 2⟩) (meth := k7m2) (c := k7c2) (by decide +kernel) rfl rfl rfl (by decide +kernel)
set_option maxRecDepth 65536 in
theorem w_c11 : (Jvm.Cond.code ({ cls := "java/lang/String", name := "coder", desc := "()B" } : Jvm.MethodName) jdk_42_method_152_code (1 : Nat) (Option.some Jvm.ClassFile.FieldType.byte)).before args0 about1 = true := code_word (m := ⟨7, 6⟩) (meth := k7m6) (c := k7c6) (by decide +kernel) rfl rfl rfl (by decide +kernel)
set_option maxRecDepth 65536 in
theorem w_c12 : (Jvm.Cond.code ({ cls := "java/lang/String", name := "charAt", desc := "(I)C" } : Jvm.MethodName) jdk_42_method_56_code (2 : Nat) (Option.some Jvm.ClassFile.FieldType.char)).before args0 about1 = true := code_word (m := ⟨7, 4⟩) (meth := k7m4) (c := k7c4) (by decide +kernel) rfl rfl rfl (by decide +kernel)
set_option maxRecDepth 65536 in
theorem w_c13 : (Jvm.Cond.code ({ cls := "java/lang/String", name := "isLatin1", desc := "()Z" } : Jvm.MethodName) jdk_42_method_154_code (1 : Nat) (Option.some Jvm.ClassFile.FieldType.boolean)).before args0 about1 = true := code_word (m := ⟨7, 7⟩) (meth := k7m7) (c := k7c7) (by decide +kernel) rfl rfl rfl (by decide +kernel)
set_option maxRecDepth 65536 in
theorem w_c14 : (Jvm.Cond.code ({ cls := "java/lang/StringLatin1", name := "charAt", desc := "([BI)C" } : Jvm.MethodName) jdk_43_method_2_code (2 : Nat) (Option.some Jvm.ClassFile.FieldType.char)).before args0 about1 = true := code_word (m := ⟨10, 1⟩) (meth := k10m1) (c := k10c1) (by decide +kernel) rfl rfl rfl (by decide +kernel)
set_option maxRecDepth 65536 in
theorem w_c15 : (Jvm.Cond.code ({ cls := "java/lang/String", name := "checkIndex", desc := "(II)V" } : Jvm.MethodName) jdk_42_method_155_code (2 : Nat) (Option.none : Option Jvm.ClassFile.FieldType)).before args0 about1 = true := code_word (m := ⟨7, 8⟩) (meth := k7m8) (c := k7c8) (by decide +kernel) rfl rfl rfl (by decide +kernel)
set_option maxRecDepth 65536 in
theorem w_c16 : (Jvm.Cond.code ({ cls := "jdk/internal/util/Preconditions", name := "checkIndex", desc := "(IILjava/util/function/BiFunction;)I" } : Jvm.MethodName) jdk_41_method_11_code (3 : Nat) (Option.some Jvm.ClassFile.FieldType.int)).before args0 about1 = true := code_word (m := ⟨11, 1⟩) (meth := k11m1) (c := k11c1) (by decide +kernel) rfl rfl rfl (by decide +kernel)
set_option maxRecDepth 65536 in
theorem w_c17 : (Jvm.Cond.code ({ cls := "java/lang/StringUTF16", name := "toBytes", desc := "([CII)[B" } : Jvm.MethodName) jdk_52_method_14_code (5 : Nat) (Option.some (Jvm.ClassFile.FieldType.array Jvm.ClassFile.FieldType.byte))).before args0 about1 = true := code_word (m := ⟨8, 6⟩) (meth := k8m6) (c := k8c6) (by decide +kernel) rfl rfl rfl (by decide +kernel)
set_option maxRecDepth 65536 in
theorem w_c18 : (Jvm.Cond.code ({ cls := "java/lang/StringUTF16", name := "newBytesFor", desc := "(I)[B" } : Jvm.MethodName) jdk_52_method_2_code (1 : Nat) (Option.some (Jvm.ClassFile.FieldType.array Jvm.ClassFile.FieldType.byte))).before args0 about1 = true := code_word (m := ⟨8, 1⟩) (meth := k8m1) (c := k8c1) (by decide +kernel) rfl rfl rfl (by decide +kernel)
set_option maxRecDepth 65536 in
theorem w_c19 : (Jvm.Cond.code ({ cls := "java/lang/StringUTF16", name := "newBytesLength", desc := "(I)I" } : Jvm.MethodName) jdk_52_method_3_code (1 : Nat) (Option.some Jvm.ClassFile.FieldType.int)).before args0 about1 = true := code_word (m := ⟨8, 2⟩) (meth := k8m2) (c := k8c2) (by decide +kernel) rfl rfl rfl (by decide +kernel)
set_option maxRecDepth 65536 in
theorem w_c20 : (Jvm.Cond.code ({ cls := "java/lang/StringUTF16", name := "putChar", desc := "([BII)V" } : Jvm.MethodName) jdk_52_method_4_code (3 : Nat) (Option.none : Option Jvm.ClassFile.FieldType)).before args0 about1 = true := code_word (m := ⟨8, 3⟩) (meth := k8m3) (c := k8c3) (by decide +kernel) rfl rfl rfl (by decide +kernel)
set_option maxRecDepth 65536 in
theorem w_c21 : (Jvm.Cond.code ({ cls := "java/lang/StringUTF16", name := "getChar", desc := "([BI)C" } : Jvm.MethodName) jdk_52_method_5_code (2 : Nat) (Option.some Jvm.ClassFile.FieldType.char)).before args0 about1 = true := code_word (m := ⟨8, 4⟩) (meth := k8m4) (c := k8c4) (by decide +kernel) rfl rfl rfl (by decide +kernel)
set_option maxRecDepth 65536 in
theorem w_c22 : (Jvm.Cond.code ({ cls := "java/lang/StringUTF16", name := "charAt", desc := "([BI)C" } : Jvm.MethodName) jdk_52_method_83_code (2 : Nat) (Option.some Jvm.ClassFile.FieldType.char)).before args0 about1 = true := code_word (m := ⟨8, 10⟩) (meth := k8m10) (c := k8c10) (by decide +kernel) rfl rfl rfl (by decide +kernel)
set_option maxRecDepth 65536 in
theorem w_c23 : (Jvm.Cond.code ({ cls := "java/lang/StringUTF16", name := "checkIndex", desc := "(I[B)V" } : Jvm.MethodName) jdk_52_method_91_code (2 : Nat) (Option.none : Option Jvm.ClassFile.FieldType)).before args0 about1 = true := code_word (m := ⟨8, 11⟩) (meth := k8m11) (c := k8c11) (by decide +kernel) rfl rfl rfl (by decide +kernel)
set_option maxRecDepth 65536 in
theorem w_c24 : (Jvm.Cond.code ({ cls := "java/lang/StringUTF16", name := "length", desc := "([B)I" } : Jvm.MethodName) jdk_52_method_6_code (1 : Nat) (Option.some Jvm.ClassFile.FieldType.int)).before args0 about1 = true := code_word (m := ⟨8, 5⟩) (meth := k8m5) (c := k8c5) (by decide +kernel) rfl rfl rfl (by decide +kernel)
def codes1 : List Jvm.Cond := [Jvm.Cond.code x code maxLocals ret, Jvm.Cond.code ({ cls := "com/example/sault/sault/ArgumentsLockNamePinLaw", name := "make", desc := "(ICCCC)Ljava/lang/String;" } : Jvm.MethodName) method_3_code (6 : Nat) (Option.some (Jvm.ClassFile.FieldType.object "java/lang/String")), Jvm.Cond.code ({ cls := "java/lang/String", name := "<init>", desc := "([C)V" } : Jvm.MethodName) jdk_42_method_3_code (2 : Nat) (Option.none : Option Jvm.ClassFile.FieldType), Jvm.Cond.code ({ cls := "java/lang/String", name := "<init>", desc := "([CIILjava/lang/Void;)V" } : Jvm.MethodName) jdk_42_method_149_code (6 : Nat) (Option.none : Option Jvm.ClassFile.FieldType), Jvm.Cond.code ({ cls := "java/lang/Object", name := "<init>", desc := "()V" } : Jvm.MethodName) object_method_1_code (1 : Nat) (Option.none : Option Jvm.ClassFile.FieldType), Jvm.Cond.code ({ cls := "java/lang/StringUTF16", name := "compress", desc := "([CII)[B" } : Jvm.MethodName) jdk_52_method_16_code (6 : Nat) (Option.some (Jvm.ClassFile.FieldType.array Jvm.ClassFile.FieldType.byte)), Jvm.Cond.code ({ cls := "java/lang/StringUTF16", name := "compress", desc := "([CI[BII)I" } : Jvm.MethodName) jdk_52_method_21_code (7 : Nat) (Option.some Jvm.ClassFile.FieldType.int), Jvm.Cond.code ({ cls := "java/lang/StringUTF16", name := "coderFromArrayLen", desc := "([BI)B" } : Jvm.MethodName) jdk_52_method_15_code (2 : Nat) (Option.some Jvm.ClassFile.FieldType.byte), Jvm.Cond.code ({ cls := "com/example/sault/sault/Arguments", name := "lockName", desc := "(Ljava/lang/String;)Ljava/lang/String;" } : Jvm.MethodName) prog_1_method_2_code (1 : Nat) (Option.some (Jvm.ClassFile.FieldType.object "java/lang/String")), Jvm.Cond.code ({ cls := "java/lang/String", name := "isEmpty", desc := "()Z" } : Jvm.MethodName) jdk_42_method_55_code (1 : Nat) (Option.some Jvm.ClassFile.FieldType.boolean), Jvm.Cond.code ({ cls := "java/lang/String", name := "length", desc := "()I" } : Jvm.MethodName) jdk_42_method_54_code (1 : Nat) (Option.some Jvm.ClassFile.FieldType.int), Jvm.Cond.code ({ cls := "java/lang/String", name := "coder", desc := "()B" } : Jvm.MethodName) jdk_42_method_152_code (1 : Nat) (Option.some Jvm.ClassFile.FieldType.byte), Jvm.Cond.code ({ cls := "java/lang/String", name := "charAt", desc := "(I)C" } : Jvm.MethodName) jdk_42_method_56_code (2 : Nat) (Option.some Jvm.ClassFile.FieldType.char), Jvm.Cond.code ({ cls := "java/lang/String", name := "isLatin1", desc := "()Z" } : Jvm.MethodName) jdk_42_method_154_code (1 : Nat) (Option.some Jvm.ClassFile.FieldType.boolean), Jvm.Cond.code ({ cls := "java/lang/StringLatin1", name := "charAt", desc := "([BI)C" } : Jvm.MethodName) jdk_43_method_2_code (2 : Nat) (Option.some Jvm.ClassFile.FieldType.char), Jvm.Cond.code ({ cls := "java/lang/String", name := "checkIndex", desc := "(II)V" } : Jvm.MethodName) jdk_42_method_155_code (2 : Nat) (Option.none : Option Jvm.ClassFile.FieldType), Jvm.Cond.code ({ cls := "jdk/internal/util/Preconditions", name := "checkIndex", desc := "(IILjava/util/function/BiFunction;)I" } : Jvm.MethodName) jdk_41_method_11_code (3 : Nat) (Option.some Jvm.ClassFile.FieldType.int), Jvm.Cond.code ({ cls := "java/lang/StringUTF16", name := "toBytes", desc := "([CII)[B" } : Jvm.MethodName) jdk_52_method_14_code (5 : Nat) (Option.some (Jvm.ClassFile.FieldType.array Jvm.ClassFile.FieldType.byte)), Jvm.Cond.code ({ cls := "java/lang/StringUTF16", name := "newBytesFor", desc := "(I)[B" } : Jvm.MethodName) jdk_52_method_2_code (1 : Nat) (Option.some (Jvm.ClassFile.FieldType.array Jvm.ClassFile.FieldType.byte)), Jvm.Cond.code ({ cls := "java/lang/StringUTF16", name := "newBytesLength", desc := "(I)I" } : Jvm.MethodName) jdk_52_method_3_code (1 : Nat) (Option.some Jvm.ClassFile.FieldType.int), Jvm.Cond.code ({ cls := "java/lang/StringUTF16", name := "putChar", desc := "([BII)V" } : Jvm.MethodName) jdk_52_method_4_code (3 : Nat) (Option.none : Option Jvm.ClassFile.FieldType), Jvm.Cond.code ({ cls := "java/lang/StringUTF16", name := "getChar", desc := "([BI)C" } : Jvm.MethodName) jdk_52_method_5_code (2 : Nat) (Option.some Jvm.ClassFile.FieldType.char), Jvm.Cond.code ({ cls := "java/lang/StringUTF16", name := "charAt", desc := "([BI)C" } : Jvm.MethodName) jdk_52_method_83_code (2 : Nat) (Option.some Jvm.ClassFile.FieldType.char), Jvm.Cond.code ({ cls := "java/lang/StringUTF16", name := "checkIndex", desc := "(I[B)V" } : Jvm.MethodName) jdk_52_method_91_code (2 : Nat) (Option.none : Option Jvm.ClassFile.FieldType), Jvm.Cond.code ({ cls := "java/lang/StringUTF16", name := "length", desc := "([B)I" } : Jvm.MethodName) jdk_52_method_6_code (1 : Nat) (Option.some Jvm.ClassFile.FieldType.int)]
set_option maxRecDepth 65536 in
theorem codes_eq : words1.filter isCode = codes1 := rfl
theorem w_codes : ∀ c ∈ words1.filter isCode, c.before args0 about1 = true := by
  rw [codes_eq]
  intro c hc
  simp only [codes1, List.mem_cons, List.not_mem_nil, or_false] at hc
  rcases hc with rfl | rfl | rfl | rfl | rfl | rfl | rfl | rfl | rfl | rfl | rfl | rfl | rfl | rfl | rfl | rfl | rfl | rfl | rfl | rfl | rfl | rfl | rfl | rfl | rfl
  · exact w_c0
  · exact w_c1
  · exact w_c2
  · exact w_c3
  · exact w_c4
  · exact w_c5
  · exact w_c6
  · exact w_c7
  · exact w_c8
  · exact w_c9
  · exact w_c10
  · exact w_c11
  · exact w_c12
  · exact w_c13
  · exact w_c14
  · exact w_c15
  · exact w_c16
  · exact w_c17
  · exact w_c18
  · exact w_c19
  · exact w_c20
  · exact w_c21
  · exact w_c22
  · exact w_c23
  · exact w_c24
set_option maxRecDepth 65536 in
theorem w_t1 : (words1.take 24).all (fun c => isCode c || c.before args0 about1) = true := by decide +kernel
set_option maxRecDepth 65536 in
theorem w_t2 : ((words1.drop 24).take 24).all (fun c => isCode c || c.before args0 about1) = true := by decide +kernel
set_option maxRecDepth 65536 in
theorem w_t3 : (((words1.drop 24).drop 24).take 24).all (fun c => isCode c || c.before args0 about1) = true := by decide +kernel
set_option maxRecDepth 65536 in
theorem w_t4 : ((((words1.drop 24).drop 24).drop 24).take 24).all (fun c => isCode c || c.before args0 about1) = true := by decide +kernel
set_option maxRecDepth 65536 in
theorem w_t5 : ((((words1.drop 24).drop 24).drop 24).drop 24).all (fun c => isCode c || c.before args0 about1) = true := by decide +kernel
theorem w_tables : (allAtoms (Jvm.Cond.code x code maxLocals ret :: tables_1)).before args0 about1 = true := by
  rw [allAtoms_all]
  show words1.all (fun c => c.before args0 about1) = true
  refine all_split ?_ w_codes
  rw [← List.take_append_drop 24 words1, List.all_append, w_t1, ← List.take_append_drop 24 (words1.drop 24), List.all_append, w_t2, ← List.take_append_drop 24 ((words1.drop 24).drop 24), List.all_append, w_t3, ← List.take_append_drop 24 (((words1.drop 24).drop 24).drop 24), List.all_append, w_t4, w_t5]
  rfl
set_option maxRecDepth 65536 in
theorem w_rest : rest_1_c.before args0 about1 = true := by decide +kernel
set_option maxRecDepth 65536 in
theorem w_case : (Jvm.Cond.and given_1 narrow_1).before args0 about1 = true := by decide +kernel
theorem w_applies : (headSpec (Jvm.Cond.code x code maxLocals ret :: tables_1) room_1).applies x e0.platform about1 = true :=
  (Spec.applies_iff w_frames).mpr ⟨w_running, w_runnable, w_alone, w_named, w_hears, w_ripe, w_room, w_tables⟩
theorem atStart : AtStart classFile x code maxLocals ret World_1 tables_1 room_1 Calls_1 rest_1 Pre_1 launch0 p0 e0 about1 theMethod args0 below0 :=
  ⟨lists_1, trivial, launch0.admits_env _ _ _, launch0.least_env, fairChoices_fair.cas, fairChoices_fair.clock, w_frames, w_args, w_heap, w_applies, trivial, w_rest, w_case⟩
end start1
theorem witness_1 : WitnessClaimed_1 := ⟨start1.p0, start1.e0, start1.about1, start1.theMethod, start1.args0, start1.below0, start1.atStart⟩
end Jvm.Pilot.@@N@@
