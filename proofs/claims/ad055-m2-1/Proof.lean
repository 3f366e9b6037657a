import JvmDerived
import JvmDerived.Pilot.@@N@@Statement
import JvmDerived.Pilot.@@N@@Code
set_option linter.unusedVariables false
set_option linter.unusedSimpArgs false
/- laws to paste: Road.backV, Road.eqW, Road.codOf (cut by pick.py; bodies as the Statement names them) -/
namespace Jvm.Pilot.@@N@@
namespace StrChars
open Jvm Sem ClassFile Op Lib Jvm.Stand Jvm.Free.XT Jvm.Free.ALB Jvm.Free.JM Jvm.Free
open Jvm.Lib.Cold (StaticIs)
/-- a char array whose places are chars -/
def Ch (a : Addr) (A : Cell) (U : State) : Prop := Arr .char a A U ∧ Typed .char A
theorem Ch.mv {a : Addr} {A : Cell} {U U' : State} (h : Ch a A U) (hal : U.vm.Alike U'.vm) (hh : U'.heap = U.heap) : Ch a A U' := ⟨h.1.mv hal hh, h.2⟩
theorem Ch.keep {a : Addr} {A : Cell} {U U' : State} (h : Ch a A U) (hal : U.vm.Alike U'.vm) (hk : U'.heap[a]? = some A) : Ch a A U' := ⟨h.1.keep hal hk, h.2⟩
/-- what place i of a char[]'s cell holds -/
def cv (A : Cell) (i : Nat) : Int32 := match A.slots[i]? with | some (.int x) => x | _ => 0
theorem Ch.get {a : Addr} {A : Cell} {U : State} (h : Ch a A U) {i : Nat} (hi : i < A.slots.size) : A.slots[i]? = some (.int (cv A i)) := by
  have e := Array.getElem?_eq_getElem hi
  have f := h.2 i _ e
  unfold cv; rw [e]
  generalize A.slots[i] = v at f
  cases v <;> simp [fits] at f ⊢
/-- the byte that i2b leaves of a char -/
def lo8 (x : Int32) : Int32 := x.toInt8.toInt32
theorem fits_lo8 (y : Int32) : fits .byte (.int (lo8 y)) = true := by
  have h1 := y.toInt8.le_toInt
  have h2 := y.toInt8.toInt_lt
  simp only [lo8, fits, Bool.and_eq_true, decide_eq_true_eq, Int32.le_iff_toInt_le, Int8.toInt_toInt32, show (-128 : Int32).toInt = -128 from by decide, show (127 : Int32).toInt = 127 from by decide]
  omega
/-- A' is A but that each place j of lo .. hi - 1 holds f j -/
def Laid (A A' : Cell) (lo hi : Nat) (f : Nat → Value) : Prop := A'.cls = A.cls ∧ A'.vm = A.vm ∧ A'.slots.size = A.slots.size ∧ ∀ i, A'.slots[i]? = if lo ≤ i ∧ i < hi then some (f i) else A.slots[i]?
theorem Laid.zero (A : Cell) (lo : Nat) (f : Nat → Value) : Laid A A lo (lo + 0) f := ⟨rfl, rfl, rfl, fun i => by rw [if_neg (by omega)]⟩
theorem Laid.step {A Ak : Cell} {lo k : Nat} {f : Nat → Value} {v : Value} (h : Laid A Ak lo k f) (hlo : lo ≤ k) (hk : k < Ak.slots.size) (hv : v = f k) : Laid A (Ak.setSlot k v) lo (k + 1) f := by
  refine ⟨h.1, h.2.1, by simpa [Cell.setSlot] using h.2.2.1, fun i => ?_⟩
  by_cases e : k = i
  · subst e; rw [Cell.slots_setSlot_self v hk, if_pos (by omega), hv]
  · rw [Cell.slots_setSlot_ne v e, h.2.2.2 i]
    by_cases q : lo ≤ i ∧ i < k
    · rw [if_pos q, if_pos (by omega)]
    · rw [if_neg q, if_neg (by omega)]
def U16 : String := "java/lang/StringUTF16"
namespace Cmp5
def yN : MethodName := ⟨"java/lang/StringUTF16", "compress", "([CI[BII)I"⟩
abbrev yB : ByteArray := jdk_52_method_21_code
theorem d0 : decode yB 0 = .ok (.iconst 0, 1) := by decide +kernel
theorem d1 : decode yB 1 = .ok (.istore 5, 2) := by decide +kernel
theorem d3 : decode yB 3 = .ok (.iload 5, 2) := by decide +kernel
theorem d5 : decode yB 5 = .ok (.iload 4, 2) := by decide +kernel
theorem d7 : decode yB 7 = .ok (.if_icmp (.ge) 37, 3) := by decide +kernel
theorem d10 : decode yB 10 = .ok (.aload_n 0, 1) := by decide +kernel
theorem d11 : decode yB 11 = .ok (.iload_n 1, 1) := by decide +kernel
theorem d12 : decode yB 12 = .ok (.caload, 1) := by decide +kernel
theorem d13 : decode yB 13 = .ok (.istore 6, 2) := by decide +kernel
theorem d15 : decode yB 15 = .ok (.iload 6, 2) := by decide +kernel
theorem d17 : decode yB 17 = .ok (.sipush 255, 3) := by decide +kernel
theorem d20 : decode yB 20 = .ok (.if_icmp (.le) 6, 3) := by decide +kernel
theorem d26 : decode yB 26 = .ok (.aload_n 2, 1) := by decide +kernel
theorem d27 : decode yB 27 = .ok (.iload_n 3, 1) := by decide +kernel
theorem d28 : decode yB 28 = .ok (.iload 6, 2) := by decide +kernel
theorem d30 : decode yB 30 = .ok (.i2b, 1) := by decide +kernel
theorem d31 : decode yB 31 = .ok (.bastore, 1) := by decide +kernel
theorem d32 : decode yB 32 = .ok (.iinc 1 1, 3) := by decide +kernel
theorem d35 : decode yB 35 = .ok (.iinc 3 1, 3) := by decide +kernel
theorem d38 : decode yB 38 = .ok (.iinc 5 1, 3) := by decide +kernel
theorem d41 : decode yB 41 = .ok (.goto (-38), 3) := by decide +kernel
theorem d44 : decode yB 44 = .ok (.iload 4, 2) := by decide +kernel
theorem d46 : decode yB 46 = .ok (.ireturn, 1) := by decide +kernel
def site : List Cond := []
def tab : Cond := tabOf yN yB 7 (some .int) site
def P (b : Addr) (A : Cell) (d : Addr) (B : Cell) (o q len : Nat) (args : Array Value) (s : State) : Prop := args = #[.ref b, .int (Int32.ofNat o), .ref d, .int (Int32.ofNat q), .int (Int32.ofNat len)] ∧ Ch b A s ∧ Arr .byte d B s ∧ b ≠ d ∧ o + len ≤ A.slots.size ∧ q + len ≤ B.slots.size ∧ ∀ i, i < len → ¬ 255 < cv A (o + i)
def E (b : Addr) (A : Cell) (d : Addr) (B : Cell) (o q len : Nat) (r : Option Value) (s u : State) : Prop := r = some (.int (Int32.ofNat len)) ∧ ∃ B', Put d B' s u ∧ Laid B B' q (q + len) (fun j => Value.int (lo8 (cv A (o + (j - q)))))
/-- no char of the range above 255: len; the places written hold each char's low byte -/
theorem law (l : Launch) (b : Addr) (A : Cell) (d : Addr) (B : Cell) (o q len : Nat) : Law l yN 5 5 0 0 yB 7 (some .int) site (P b A d B o q len) (E b A d B o q len) (copyLocs d q len) 0 0 := by
  refine Law.of_walk (plainFor_of_name (by decide +kernel)) (by decide +kernel) (by decide +kernel) (by decide) (fun _ _ h => by rw [h.1]; rfl) (fun _ U U' hal hh h => ⟨h.1, h.2.1.mv hal hh, h.2.2.1.mv hal hh, h.2.2.2⟩) (fun r U U' V V' h1 hal h2 h => ⟨h.1, h.2.elim fun B' q => ⟨B', q.1.mv h1 h2, q.2⟩⟩) ?_
  intro p e s m args below meth c s₁ X0 hexec hbytes hml hret hlk hnm hown hh0 W hP
  obtain ⟨rfl, hA, hB, hne, l1, l2, hp⟩ := hP
  have c1 : Steps p.tables e below (s₁.setTop (entryFrame m #[.ref b, .int (Int32.ofNat o), .ref d, .int (Int32.ofNat q), .int (Int32.ofNat len)] 7)) (s₁.setTop (mkF m 0 #[.val (.ref b), .val (.int (Int32.ofNat o)), .val (.ref d), .val (.int (Int32.ofNat q)), .val (.int (Int32.ofNat len)), .unset, .unset] [])) := entry rfl
  have hA0 := hA.1.mv X0.warmed.alike hh0
  have hB0 := hB.mv X0.warmed.alike hh0
  have a31 := hA.1.2.2.2
  have c2 : Steps p.tables e below (s₁.setTop (entryFrame m #[.ref b, .int (Int32.ofNat o), .ref d, .int (Int32.ofNat q), .int (Int32.ofNat len)] 7)) (s₁.setTop (mkF m 3 #[.val (.ref b), .val (.int (Int32.ofNat o)), .val (.ref d), .val (.int (Int32.ofNat q)), .val (.int (Int32.ofNat len)), .val (.int 0), .unset] [])) := c1.trans (by
    refine iconstV X0.here hexec rfl 0 (hb hbytes d0) (by decide) ?_
    refine XS.istore X0.here hexec rfl (hb hbytes d1) rfl rfl ?_
    exact Steps.refl _)
  have loop : ∀ (r i : Nat), i + r = len → ∀ (z : Slot), (z = .unset ∨ ∃ w, z = .val w ∧ w.category = 1) → ∀ (Tl : State) (Bk : Cell), Stand p l e { frames := 0, locals := 0, cells := 0, slots := 0 } s m #[.ref b, .int (Int32.ofNat o), .ref d, .int (Int32.ofNat q), .int (Int32.ofNat len)] below meth c Tl ([] ++ copyLocs d q i) 0 0 → Put d Bk s₁ Tl → Laid B Bk q (q + i) (fun j => Value.int (lo8 (cv A (o + (j - q))))) →
      Steps p.tables e below (s₁.setTop (entryFrame m #[.ref b, .int (Int32.ofNat o), .ref d, .int (Int32.ofNat q), .int (Int32.ofNat len)] 7)) (Tl.setTop (mkF m 3 #[.val (.ref b), .val (.int (Int32.ofNat (o + i))), .val (.ref d), .val (.int (Int32.ofNat (q + i))), .val (.int (Int32.ofNat len)), .val (.int (Int32.ofNat i)), z] [])) → ∃ (T' : State) (B' : Cell) (z' : Slot), Stand p l e { frames := 0, locals := 0, cells := 0, slots := 0 } s m #[.ref b, .int (Int32.ofNat o), .ref d, .int (Int32.ofNat q), .int (Int32.ofNat len)] below meth c T' ([] ++ copyLocs d q len) 0 0 ∧ Put d B' s₁ T' ∧ Laid B B' q (q + len) (fun j => Value.int (lo8 (cv A (o + (j - q))))) ∧
      Steps p.tables e below (s₁.setTop (entryFrame m #[.ref b, .int (Int32.ofNat o), .ref d, .int (Int32.ofNat q), .int (Int32.ofNat len)] 7)) (T'.setTop (mkF m 3 #[.val (.ref b), .val (.int (Int32.ofNat (o + len))), .val (.ref d), .val (.int (Int32.ofNat (q + len))), .val (.int (Int32.ofNat len)), .val (.int (Int32.ofNat len)), z'] [])) := by
    intro r
    induction r with
    | zero =>
      intro i hi z hz Tl Bk Xl pl fl cl
      have hil : i = len := by omega
      rw [hil] at Xl fl cl
      exact ⟨Tl, Bk, z, Xl, pl, fl, cl⟩
    | succ r ih =>
      intro i hi z hz Tl Bk Xl pl fl cl
      have all := X0.warmed.alike.symm.trans Xl.warmed.alike
      have hAl := hA0.keep all (pl.other hne hA0.1)
      have hBk := hB0.like all pl.1 fl.1 fl.2.1 fl.2.2.1
      have hlt : q + i < Bk.slots.size := by rw [fl.2.2.1]; omega
      have c3 : Steps p.tables e below (s₁.setTop (entryFrame m #[.ref b, .int (Int32.ofNat o), .ref d, .int (Int32.ofNat q), .int (Int32.ofNat len)] 7)) (Tl.setTop (mkF m 12 #[.val (.ref b), .val (.int (Int32.ofNat (o + i))), .val (.ref d), .val (.int (Int32.ofNat (q + i))), .val (.int (Int32.ofNat len)), .val (.int (Int32.ofNat i)), z] [.int (Int32.ofNat (o + i)), .ref b])) := cl.trans (by
        refine XS.iload Xl.here hexec rfl (hb hbytes d3) rfl ?_
        refine XS.iload Xl.here hexec rfl (hb hbytes d5) rfl ?_
        refine XS.icmpNo Xl.here hexec rfl (hb hbytes d7) rfl (ii_ge_f (lt32 (by omega) (by omega))) ?_
        refine XS.aloadN Xl.here hexec rfl (hb hbytes d10) rfl rfl ?_
        refine XS.iloadN Xl.here hexec rfl (hb hbytes d11) rfl ?_
        exact Steps.refl _)
      have c4 : Steps p.tables e below (s₁.setTop (entryFrame m #[.ref b, .int (Int32.ofNat o), .ref d, .int (Int32.ofNat q), .int (Int32.ofNat len)] 7)) (Tl.setTop (mkF m 13 #[.val (.ref b), .val (.int (Int32.ofNat (o + i))), .val (.ref d), .val (.int (Int32.ofNat (q + i))), .val (.int (Int32.ofNat len)), .val (.int (Int32.ofNat i)), z] [.int (cv A (o + i))])) := c3.trans (by
        refine Xl.aget hexec hAl rfl (hA.get (i := o + i) (by omega)) rfl rfl (hb hbytes d12) ?_
        exact Steps.refl _)
      have c5 : Steps p.tables e below (s₁.setTop (entryFrame m #[.ref b, .int (Int32.ofNat o), .ref d, .int (Int32.ofNat q), .int (Int32.ofNat len)] 7)) (Tl.setTop (mkF m 15 #[.val (.ref b), .val (.int (Int32.ofNat (o + i))), .val (.ref d), .val (.int (Int32.ofNat (q + i))), .val (.int (Int32.ofNat len)), .val (.int (Int32.ofNat i)), .val (.int (cv A (o + i)))] [])) := c4.trans (by
        refine XS.istoreS Xl.here hexec rfl (hb hbytes d13) rfl rfl hz ?_
        exact Steps.refl _)
      have c6 : Steps p.tables e below (s₁.setTop (entryFrame m #[.ref b, .int (Int32.ofNat o), .ref d, .int (Int32.ofNat q), .int (Int32.ofNat len)] 7)) (Tl.setTop (mkF m 31 #[.val (.ref b), .val (.int (Int32.ofNat (o + i))), .val (.ref d), .val (.int (Int32.ofNat (q + i))), .val (.int (Int32.ofNat len)), .val (.int (Int32.ofNat i)), .val (.int (cv A (o + i)))] [.int (lo8 (cv A (o + i))), .int (Int32.ofNat (q + i)), .ref d])) := c5.trans (by
        refine XS.iload Xl.here hexec rfl (hb hbytes d15) rfl ?_
        refine sipushV Xl.here hexec rfl 255 (hb hbytes d17) (by decide) ?_
        refine XS.icmpYes Xl.here hexec rfl (pc0 := 20) rfl (hb hbytes d20) rfl (ii_le_t (hp i (by omega))) (by decide) rfl ?_
        refine XS.aloadN Xl.here hexec rfl (hb hbytes d26) rfl rfl ?_
        refine XS.iloadN Xl.here hexec rfl (hb hbytes d27) rfl ?_
        refine XS.iload Xl.here hexec rfl (hb hbytes d28) rfl ?_
        refine i2b Xl.here hexec rfl (hb hbytes d30) rfl ?_
        exact Steps.refl _)
      obtain ⟨T7, X7, p7, st7⟩ := Xl.aput hexec hBk rfl hlt rfl (fits_lo8 (cv A (o + i))) (g := (mkF m 31 #[.val (.ref b), .val (.int (Int32.ofNat (o + i))), .val (.ref d), .val (.int (Int32.ofNat (q + i))), .val (.int (Int32.ofNat len)), .val (.int (Int32.ofNat i)), .val (.int (cv A (o + i)))] [.int (lo8 (cv A (o + i))), .int (Int32.ofNat (q + i)), .ref d])) rfl (rest := []) rfl (hb hbytes d31)
      have c8 : Steps p.tables e below (s₁.setTop (entryFrame m #[.ref b, .int (Int32.ofNat o), .ref d, .int (Int32.ofNat q), .int (Int32.ofNat len)] 7)) (T7.setTop (mkF m 32 #[.val (.ref b), .val (.int (Int32.ofNat (o + i))), .val (.ref d), .val (.int (Int32.ofNat (q + i))), .val (.int (Int32.ofNat len)), .val (.int (Int32.ofNat i)), .val (.int (cv A (o + i)))] [])) := c6.trans (st7 _ (Steps.refl _))
      have c9 : Steps p.tables e below (s₁.setTop (entryFrame m #[.ref b, .int (Int32.ofNat o), .ref d, .int (Int32.ofNat q), .int (Int32.ofNat len)] 7)) (T7.setTop (mkF m 3 #[.val (.ref b), .val (.int (Int32.ofNat (o + i) + 1)), .val (.ref d), .val (.int (Int32.ofNat (q + i) + 1)), .val (.int (Int32.ofNat len)), .val (.int (Int32.ofNat i + 1)), .val (.int (cv A (o + i)))] [])) := c8.trans (by
        refine iincV X7.here hexec rfl 1 (hb hbytes d32) (by decide) rfl rfl ?_
        refine iincV X7.here hexec rfl 1 (hb hbytes d35) (by decide) rfl rfl ?_
        refine iincV X7.here hexec rfl 1 (hb hbytes d38) (by decide) rfl rfl ?_
        refine XS.goto X7.here hexec rfl (pc0 := 41) rfl (hb hbytes d41) (by decide) rfl ?_
        exact Steps.refl _)
      have c10 : Steps p.tables e below (s₁.setTop (entryFrame m #[.ref b, .int (Int32.ofNat o), .ref d, .int (Int32.ofNat q), .int (Int32.ofNat len)] 7)) (T7.setTop (mkF m 3 #[.val (.ref b), .val (.int (Int32.ofNat (o + (i + 1)))), .val (.ref d), .val (.int (Int32.ofNat (q + (i + 1)))), .val (.int (Int32.ofNat len)), .val (.int (Int32.ofNat (i + 1))), .val (.int (cv A (o + i)))] [])) := by
        have := c9
        rw [succ32, succ32, succ32] at this
        exact this
      exact ih (i + 1) (by omega) _ (Or.inr ⟨_, rfl, rfl⟩) T7 _ (by rw [copyLocs_step, ← List.append_assoc]; exact X7) (pl.trans p7) (fl.step (by omega) hlt (by simp)) c10
  obtain ⟨T9, B9, z9, X9, p9, f9, g9⟩ := loop len 0 (by omega) .unset (Or.inl rfl) s₁ B (by simpa [copyLocs] using X0) ⟨hB0.1, fun _ _ => rfl, rfl⟩ (Laid.zero _ _ _) c2
  have c11 : Steps p.tables e below (s₁.setTop (entryFrame m #[.ref b, .int (Int32.ofNat o), .ref d, .int (Int32.ofNat q), .int (Int32.ofNat len)] 7)) (T9.setTop (mkF m 46 #[.val (.ref b), .val (.int (Int32.ofNat (o + len))), .val (.ref d), .val (.int (Int32.ofNat (q + len))), .val (.int (Int32.ofNat len)), .val (.int (Int32.ofNat len)), z9] [.int (Int32.ofNat len)])) := g9.trans (by
    refine XS.iload X9.here hexec rfl (hb hbytes d3) rfl ?_
    refine XS.iload X9.here hexec rfl (hb hbytes d5) rfl ?_
    refine XS.icmpYes X9.here hexec rfl (pc0 := 7) rfl (hb hbytes d7) rfl (ii_ge_t (nlt32 (by omega) (Nat.le_refl _))) (by decide) rfl ?_
    refine XS.iload X9.here hexec rfl (hb hbytes d44) rfl ?_
    exact Steps.refl _)
  exact ⟨T9, some (.int (Int32.ofNat len)), _, _, _, X9, by simp, rfl, rfl, (fun h => by cases h), ⟨rfl, B9, p9.from hh0, f9⟩, fun fs hl => c11.trans (X9.ireturnOut hexec hret rfl (Or.inl rfl) (hb hbytes d46) hl)⟩
end Cmp5
namespace Cmp3
def yN : MethodName := ⟨"java/lang/StringUTF16", "compress", "([CII)[B"⟩
abbrev yB : ByteArray := jdk_52_method_16_code
theorem d0 : decode yB 0 = .ok (.iload_n 2, 1) := by decide +kernel
theorem d1 : decode yB 1 = .ok (.newarray .byte, 2) := by decide +kernel
theorem d3 : decode yB 3 = .ok (.astore_n 3, 1) := by decide +kernel
theorem d4 : decode yB 4 = .ok (.aload_n 0, 1) := by decide +kernel
theorem d5 : decode yB 5 = .ok (.iload_n 1, 1) := by decide +kernel
theorem d6 : decode yB 6 = .ok (.aload_n 3, 1) := by decide +kernel
theorem d7 : decode yB 7 = .ok (.iconst 0, 1) := by decide +kernel
theorem d8 : decode yB 8 = .ok (.iload_n 2, 1) := by decide +kernel
theorem d9 : decode yB 9 = .ok (.invokestatic 115, 3) := by decide +kernel
theorem d12 : decode yB 12 = .ok (.istore 4, 2) := by decide +kernel
theorem d14 : decode yB 14 = .ok (.iload 4, 2) := by decide +kernel
theorem d16 : decode yB 16 = .ok (.iload_n 2, 1) := by decide +kernel
theorem d17 : decode yB 17 = .ok (.if_icmp (.eq) 40, 3) := by decide +kernel
theorem d57 : decode yB 57 = .ok (.aload_n 3, 1) := by decide +kernel
theorem d58 : decode yB 58 = .ok (.areturn, 1) := by decide +kernel
def site : List Cond := [.arrayClass .byte, Cmp5.tab] ++ staticW U16 115 Cmp5.yN
def tab : Cond := tabOf yN yB 6 (some (.array .byte)) site
def P (b : Addr) (A : Cell) (o len : Nat) (args : Array Value) (s : State) : Prop := args = #[.ref b, .int (Int32.ofNat o), .int (Int32.ofNat len)] ∧ Ch b A s ∧ o + len ≤ A.slots.size ∧ len ≤ 536870912 ∧ ∀ i, i < len → ¬ 255 < cv A (o + i)
def E (b : Addr) (A : Cell) (o len : Nat) (r : Option Value) (s u : State) : Prop := NewArr .byte "[B" len (fun j => .int (lo8 (cv A (o + j)))) r s u ∧ u.heap.size = s.heap.size + 1
/-- no char of the range above 255: a new byte[] of their low bytes -/
theorem law (l : Launch) (b : Addr) (A : Cell) (o len : Nat) : Law l yN 3 3 1 18 yB 6 (some (.array .byte)) site (P b A o len) (E b A o len) [] 1 len := by
  refine Law.of_walk (plainFor_of_name (by decide +kernel)) (by decide +kernel) (by decide +kernel) (by decide) (fun _ _ h => by rw [h.1]; rfl) (fun _ U U' hal hh h => ⟨h.1, h.2.1.mv hal hh, h.2.2⟩) (fun r U U' V V' h1 hal h2 h => ⟨NewArr.mv r U U' V V' h1 hal h2 h.1, by rw [h1, h2]; exact h.2⟩) ?_
  intro p e s m args below meth c s₁ X0 hexec hbytes hml hret hlk hnm hown hh0 W hP
  obtain ⟨rfl, hA, l1, l2, hp⟩ := hP
  have a31 := hA.1.2.2.2
  have c1 : Steps p.tables e below (s₁.setTop (entryFrame m #[.ref b, .int (Int32.ofNat o), .int (Int32.ofNat len)] 6)) (s₁.setTop (mkF m 0 #[.val (.ref b), .val (.int (Int32.ofNat o)), .val (.int (Int32.ofNat len)), .unset, .unset, .unset] [])) := entry rfl
  have c2 : Steps p.tables e below (s₁.setTop (entryFrame m #[.ref b, .int (Int32.ofNat o), .int (Int32.ofNat len)] 6)) (s₁.setTop (mkF m 1 #[.val (.ref b), .val (.int (Int32.ofNat o)), .val (.int (Int32.ofNat len)), .unset, .unset, .unset] [.int (Int32.ofNat len)])) := c1.trans (by
    refine XS.iloadN X0.here hexec rfl (hb hbytes d0) rfl ?_
    exact Steps.refl _)
  obtain ⟨T3, B3, X3, ba3, bs3, bv3, bh3, bf3, st3⟩ := X0.anew hexec (atype := .byte) (wk W (.arrayClass .byte)) rfl (by show len * 1 ≤ _; omega) (by omega) (g := (mkF m 1 #[.val (.ref b), .val (.int (Int32.ofNat o)), .val (.int (Int32.ofNat len)), .unset, .unset, .unset] [.int (Int32.ofNat len)])) rfl (hb hbytes d1) (rest := []) rfl (Nat.le_refl _) (by show 0 + len ≤ len; omega)
  rw [hh0] at ba3 st3
  have kp3 : XT.Kept s T3 := (XT.Kept.of_eq hh0).push bh3
  have hA3 := hA.keep X3.warmed.alike (kp3 _ _ hA.1.1)
  have hne : b ≠ s.heap.size := hA.1.ne
  have c4 : Steps p.tables e below (s₁.setTop (entryFrame m #[.ref b, .int (Int32.ofNat o), .int (Int32.ofNat len)] 6)) (T3.setTop (mkF m 3 #[.val (.ref b), .val (.int (Int32.ofNat o)), .val (.int (Int32.ofNat len)), .unset, .unset, .unset] [.ref s.heap.size])) := c2.trans (st3 _ (Steps.refl _))
  have c5 : Steps p.tables e below (s₁.setTop (entryFrame m #[.ref b, .int (Int32.ofNat o), .int (Int32.ofNat len)] 6)) (T3.setTop (mkF m 9 #[.val (.ref b), .val (.int (Int32.ofNat o)), .val (.int (Int32.ofNat len)), .val (.ref s.heap.size), .unset, .unset] [.int (Int32.ofNat len), .int 0, .ref s.heap.size, .int (Int32.ofNat o), .ref b])) := c4.trans (by
    refine XS.astoreN X3.here hexec rfl (hb hbytes d3) rfl rfl rfl ?_
    refine XS.aloadN X3.here hexec rfl (hb hbytes d4) rfl rfl ?_
    refine XS.iloadN X3.here hexec rfl (hb hbytes d5) rfl ?_
    refine XS.aloadN X3.here hexec rfl (hb hbytes d6) rfl rfl ?_
    refine iconstV X3.here hexec rfl 0 (hb hbytes d7) (by decide) ?_
    refine XS.iloadN X3.here hexec rfl (hb hbytes d8) rfl ?_
    exact Steps.refl _)
  obtain ⟨v6, T6, X6, E6, g6⟩ := X3.callS hexec (Cmp5.law l b A s.heap.size B3 o 0 len) hown (wks W (staticW U16 115 Cmp5.yN)) (wk W Cmp5.tab) (W := 0) (Nat.le_of_ble_eq_true rfl) (Nat.le_of_ble_eq_true rfl) (Nat.le_refl _) (by show 0 + len + 0 ≤ len; omega) (g := (mkF m 9 #[.val (.ref b), .val (.int (Int32.ofNat o)), .val (.int (Int32.ofNat len)), .val (.ref s.heap.size), .unset, .unset] [.int (Int32.ofNat len), .int (Int32.ofNat 0), .ref s.heap.size, .int (Int32.ofNat o), .ref b])) rfl (by rw [hml]; rfl) c5 (argsL := [.ref b, .int (Int32.ofNat o), .ref s.heap.size, .int (Int32.ofNat 0), .int (Int32.ofNat len)]) (rest := []) rfl rfl (by show 2 * 0 + 0 ≤ _; decide) (hb hbytes d9) (⟨rfl, hA3, ba3, hne, l1, by rw [bs3]; simp, hp⟩)
  obtain ⟨rfl, B6, p6, f6⟩ := E6
  have c7 : Steps p.tables e below (s₁.setTop (entryFrame m #[.ref b, .int (Int32.ofNat o), .int (Int32.ofNat len)] 6)) (T6.setTop (mkF m 12 #[.val (.ref b), .val (.int (Int32.ofNat o)), .val (.int (Int32.ofNat len)), .val (.ref s.heap.size), .unset, .unset] [.int (Int32.ofNat len)])) := g6
  have c8 : Steps p.tables e below (s₁.setTop (entryFrame m #[.ref b, .int (Int32.ofNat o), .int (Int32.ofNat len)] 6)) (T6.setTop (mkF m 58 #[.val (.ref b), .val (.int (Int32.ofNat o)), .val (.int (Int32.ofNat len)), .val (.ref s.heap.size), .val (.int (Int32.ofNat len)), .unset] [.ref s.heap.size])) := c7.trans (by
    refine XS.istore X6.here hexec rfl (hb hbytes d12) rfl rfl ?_
    refine XS.iload X6.here hexec rfl (hb hbytes d14) rfl ?_
    refine XS.iloadN X6.here hexec rfl (hb hbytes d16) rfl ?_
    refine XS.icmpYes X6.here hexec rfl (pc0 := 17) rfl (hb hbytes d17) rfl (ii_eq_t rfl) (by decide) rfl ?_
    refine XS.aloadN X6.here hexec rfl (hb hbytes d57) rfl rfl ?_
    exact Steps.refl _)
  have X8 := X6.wide (L' := []) (cells' := 1) (slots' := len) (fun x hx hlt => by
    simp only [List.nil_append, copyLocs, List.mem_map, List.mem_range] at hx
    obtain ⟨i, -, rfl⟩ := hx
    exact absurd hlt (Nat.lt_irrefl _)) (Nat.le_refl _) (by omega)
  exact ⟨T6, some (.ref s.heap.size), _, _, _, X8, rfl, rfl, rfl, (fun h => by cases h), ⟨⟨rfl, B6, ba3.like (X3.warmed.alike.symm.trans X6.warmed.alike) p6.1 f6.1 f6.2.1 f6.2.2.1, f6.2.1.trans bv3, by rw [X6.warmed.alike.findClass, f6.1]; exact bf3, by rw [f6.2.2.1, bs3]; simp, fun j hj => by rw [f6.2.2.2 j, if_pos (by omega)]; rfl, kp3.put p6 (Nat.le_refl _)⟩, by rw [p6.2.2, bh3, hh0]; simp⟩, fun fs hl => c8.trans (X8.areturnOut hexec rfl hret rfl (hb hbytes d58) hl)⟩
end Cmp3
namespace CodL
def yN : MethodName := ⟨"java/lang/StringUTF16", "coderFromArrayLen", "([BI)B"⟩
abbrev yB : ByteArray := jdk_52_method_15_code
theorem d0 : decode yB 0 = .ok (.iload_n 1, 1) := by decide +kernel
theorem d1 : decode yB 1 = .ok (.aload_n 0, 1) := by decide +kernel
theorem d2 : decode yB 2 = .ok (.arraylength, 1) := by decide +kernel
theorem d3 : decode yB 3 = .ok (.isub, 1) := by decide +kernel
theorem d4 : decode yB 4 = .ok (.bipush 31, 2) := by decide +kernel
theorem d6 : decode yB 6 = .ok (.iushr, 1) := by decide +kernel
theorem d7 : decode yB 7 = .ok (.i2b, 1) := by decide +kernel
theorem d8 : decode yB 8 = .ok (.ireturn, 1) := by decide +kernel
def site : List Cond := []
def tab : Cond := tabOf yN yB 2 (some .byte) site
def P (d : Addr) (B : Cell) (args : Array Value) (s : State) : Prop := args = #[.ref d, .int (Int32.ofNat B.slots.size)] ∧ Arr .byte d B s
def E (r : Option Value) (s u : State) : Prop := XT.PureE (some (.int 0)) r s u
/-- an array as long as the number of chars: LATIN1 -/
theorem law (l : Launch) (d : Addr) (B : Cell) : Law l yN 2 2 0 0 yB 2 (some .byte) site (P d B) E [] 0 0 := by
  refine Law.of_walk (plainFor_of_name (by decide +kernel)) (by decide +kernel) (by decide +kernel) (by decide) (fun _ _ h => by rw [h.1]; rfl) (fun _ U U' hal hh h => ⟨h.1, h.2.mv hal hh⟩) (fun r U U' V V' h1 hal h2 h => XT.PureE.mv r U U' V V' h1 hal h2 h) ?_
  intro p e s m args below meth c s₁ X0 hexec hbytes hml hret hlk hnm hown hh0 W hP
  obtain ⟨rfl, hB⟩ := hP
  have hB0 := hB.mv X0.warmed.alike hh0
  have c1 : Steps p.tables e below (s₁.setTop (entryFrame m #[.ref d, .int (Int32.ofNat B.slots.size)] 2)) (s₁.setTop (mkF m 0 #[.val (.ref d), .val (.int (Int32.ofNat B.slots.size))] [])) := entry rfl
  have c2 : Steps p.tables e below (s₁.setTop (entryFrame m #[.ref d, .int (Int32.ofNat B.slots.size)] 2)) (s₁.setTop (mkF m 2 #[.val (.ref d), .val (.int (Int32.ofNat B.slots.size))] [.ref d, .int (Int32.ofNat B.slots.size)])) := c1.trans (by
    refine XS.iloadN X0.here hexec rfl (hb hbytes d0) rfl ?_
    refine XS.aloadN X0.here hexec rfl (hb hbytes d1) rfl rfl ?_
    exact Steps.refl _)
  have c3 : Steps p.tables e below (s₁.setTop (entryFrame m #[.ref d, .int (Int32.ofNat B.slots.size)] 2)) (s₁.setTop (mkF m 8 #[.val (.ref d), .val (.int (Int32.ofNat B.slots.size))] [.int (lo8 (ushr (Int32.ofNat B.slots.size - Int32.ofNat B.slots.size) 31))])) := c2.trans (by
    refine X0.alen hexec hB0 rfl rfl (hb hbytes d2) ?_
    refine XS.isub X0.here hexec rfl (hb hbytes d3) rfl ?_
    refine bipushV X0.here hexec rfl 31 (hb hbytes d4) (by decide) ?_
    refine iushr X0.here hexec rfl (hb hbytes d6) rfl ?_
    refine i2b X0.here hexec rfl (hb hbytes d7) rfl ?_
    exact Steps.refl _)
  have e0 : lo8 (ushr (Int32.ofNat B.slots.size - Int32.ofNat B.slots.size) 31) = 0 := by rw [Int32.sub_self]; decide
  rw [e0] at c3
  exact ⟨s₁, some (.int 0), _, _, _, X0, rfl, rfl, rfl, (fun h => by cases h), ⟨rfl, hh0⟩, fun fs hl => c3.trans (X0.ireturnOut hexec hret rfl (Or.inr (Or.inr (Or.inl rfl))) (hb hbytes d8) hl)⟩
end CodL
/-- the String at a is Latin-1 over a new byte[] (the heap's one new cell): the low bytes of the len chars of A from o on; every cell but a is kept -/
def Got (a : Addr) (D : Cell) (fV fC : Field) (A : Cell) (o len : Nat) (r : Option Value) (s u : State) : Prop := r = none ∧ ∃ D' V : Cell, Blank "java/lang/String" a D' u ∧ Same D D' [fV.slot, fC.slot] ∧ D'.slots[fV.slot]? = some (.ref s.heap.size) ∧ D'.slots[fC.slot]? = some (.int 0) ∧ Arr .byte s.heap.size V u ∧ V.vm = .none ∧ u.vm.findClass "[B" = some V.cls ∧ V.slots.size = len ∧ (∀ j, j < len → V.slots[j]? = some (.int (lo8 (cv A (o + j))))) ∧ (∀ (y : Addr) (c : Cell), y ≠ a → s.heap[y]? = some c → u.heap[y]? = some c) ∧ u.heap.size = s.heap.size + 1
theorem Got.mv {a : Addr} {D A : Cell} {fV fC : Field} {o len : Nat} : ∀ r (U U' V V' : State), U'.heap = U.heap → V.vm.Alike V'.vm → V'.heap = V.heap → Got a D fV fC A o len r U V → Got a D fV fC A o len r U' V' :=
  fun r U U' V V' h1 hal h2 ⟨e0, D', X, a1, a2, a3, a4, a5, a6, a7, a8, a9, a10, a11⟩ => ⟨e0, D', X, a1.mv hal h2, a2, by rw [h1]; exact a3, a4, by rw [h1]; exact a5.mv hal h2, a6, by rw [hal.findClass]; exact a7, a8, a9, by rw [h1, h2]; exact a10, by rw [h1, h2]; exact a11⟩
namespace New4
def yN : MethodName := ⟨"java/lang/String", "<init>", "([CIILjava/lang/Void;)V"⟩
abbrev yB : ByteArray := jdk_42_method_149_code
theorem d0 : decode yB 0 = .ok (.aload_n 0, 1) := by decide +kernel
theorem d1 : decode yB 1 = .ok (.invokespecial 1, 3) := by decide +kernel
theorem d4 : decode yB 4 = .ok (.iload_n 3, 1) := by decide +kernel
theorem d5 : decode yB 5 = .ok (.ifCond (.ne) 22, 3) := by decide +kernel
theorem d27 : decode yB 27 = .ok (.getstatic 38, 3) := by decide +kernel
theorem d30 : decode yB 30 = .ok (.ifCond (.eq) 28, 3) := by decide +kernel
theorem d33 : decode yB 33 = .ok (.aload_n 1, 1) := by decide +kernel
theorem d34 : decode yB 34 = .ok (.iload_n 2, 1) := by decide +kernel
theorem d35 : decode yB 35 = .ok (.iload_n 3, 1) := by decide +kernel
theorem d36 : decode yB 36 = .ok (.invokestatic 177, 3) := by decide +kernel
theorem d39 : decode yB 39 = .ok (.astore 5, 2) := by decide +kernel
theorem d41 : decode yB 41 = .ok (.aload_n 0, 1) := by decide +kernel
theorem d42 : decode yB 42 = .ok (.aload 5, 2) := by decide +kernel
theorem d44 : decode yB 44 = .ok (.iload_n 3, 1) := by decide +kernel
theorem d45 : decode yB 45 = .ok (.invokestatic 47, 3) := by decide +kernel
theorem d48 : decode yB 48 = .ok (.putfield 15, 3) := by decide +kernel
theorem d51 : decode yB 51 = .ok (.aload_n 0, 1) := by decide +kernel
theorem d52 : decode yB 52 = .ok (.aload 5, 2) := by decide +kernel
theorem d54 : decode yB 54 = .ok (.putfield 9, 3) := by decide +kernel
theorem d57 : decode yB 57 = .ok (.return_, 1) := by decide +kernel
def site : List Cond := [.fieldLink "java/lang/String" 38 "java/lang/String" "COMPACT_STRINGS" "Z", Cmp3.tab, CodL.tab, .laysFinal "java/lang/String" "java/lang/String" "value" "[B", .fieldLink "java/lang/String" 9 "java/lang/String" "value" "[B", .laysFinal "java/lang/String" "java/lang/String" "coder" "B", .fieldLink "java/lang/String" 15 "java/lang/String" "coder" "B"] ++ objW "java/lang/String" 1 ++ staticW "java/lang/String" 177 Cmp3.yN ++ staticW "java/lang/String" 47 CodL.yN
def tab : Cond := tabOf yN yB 6 none site
def P (a : Addr) (D : Cell) (fV fC : Field) (b : Addr) (A : Cell) (z : Int32) (o len : Nat) (args : Array Value) (s : State) : Prop := args = #[.ref a, .ref b, .int (Int32.ofNat o), .int (Int32.ofNat len), .null] ∧ Blank "java/lang/String" a D s ∧ Found "java/lang/String" "value" "[B" fV s ∧ Found "java/lang/String" "coder" "B" fC s ∧ Ch b A s ∧ StaticIs s "java/lang/String" "COMPACT_STRINGS" "Z" (.int z) ∧ ¬ z = 0 ∧ 0 < len ∧ o + len ≤ A.slots.size ∧ len ≤ 536870912 ∧ ∀ i, i < len → ¬ 255 < cv A (o + i)
def E (a : Addr) (D : Cell) (fV fC : Field) (A : Cell) (o len : Nat) (r : Option Value) (s u : State) : Prop := Got a D fV fC A o len r s u
/-- len > 0, no char of the range above 255: a Latin-1 String of their low bytes -/
theorem law (l : Launch) (a : Addr) (D : Cell) (fV fC : Field) (b : Addr) (A : Cell) (z : Int32) (o len : Nat) : Law l yN 5 4 2 35 yB 6 none site (P a D fV fC b A z o len) (E a D fV fC A o len) [⟨a, fC.slot⟩, ⟨a, fV.slot⟩] 1 len := by
  refine Law.of_walk (plainFor_of_name (by decide +kernel)) (by decide +kernel) (by decide +kernel) (by decide) (fun _ _ h => by rw [h.1]; rfl) (fun _ U U' hal hh h => ⟨h.1, h.2.1.mv hal hh, h.2.2.1.al hal, h.2.2.2.1.al hal, h.2.2.2.2.1.mv hal hh, h.2.2.2.2.2.1.there hal hh, h.2.2.2.2.2.2⟩) (fun r U U' V V' h1 hal h2 h => Got.mv r U U' V V' h1 hal h2 h) ?_
  intro p e s m args below meth c s₁ X0 hexec hbytes hml hret hlk hnm hown hh0 W hP
  obtain ⟨rfl, hB, f1, f2, hA, s1, hz, l0, l1, l2, hp⟩ := hP
  have a31 := hA.1.2.2.2
  have c1 : Steps p.tables e below (s₁.setTop (entryFrame m #[.ref a, .ref b, .int (Int32.ofNat o), .int (Int32.ofNat len), .null] 6)) (s₁.setTop (mkF m 0 #[.val (.ref a), .val (.ref b), .val (.int (Int32.ofNat o)), .val (.int (Int32.ofNat len)), .val .null, .unset] [])) := entry rfl
  have c2 : Steps p.tables e below (s₁.setTop (entryFrame m #[.ref a, .ref b, .int (Int32.ofNat o), .int (Int32.ofNat len), .null] 6)) (s₁.setTop (mkF m 1 #[.val (.ref a), .val (.ref b), .val (.int (Int32.ofNat o)), .val (.int (Int32.ofNat len)), .val .null, .unset] [.ref a])) := c1.trans (by
    refine XS.aloadN X0.here hexec rfl (hb hbytes d0) rfl rfl ?_
    exact Steps.refl _)
  obtain ⟨T3, X3, q3, st3⟩ := X0.oinit hexec hown (wks W (objW "java/lang/String" 1)) (g := (mkF m 1 #[.val (.ref a), .val (.ref b), .val (.int (Int32.ofNat o)), .val (.int (Int32.ofNat len)), .val .null, .unset] [.ref a])) rfl (by rw [hml]; rfl) (rest := []) rfl (hb hbytes d1) (W := 0) (by show 2 * 0 + 0 ≤ _; decide) (Nat.le_of_ble_eq_true rfl) (Nat.le_of_ble_eq_true rfl)
  have hh3 := q3.trans hh0
  have c4 : Steps p.tables e below (s₁.setTop (entryFrame m #[.ref a, .ref b, .int (Int32.ofNat o), .int (Int32.ofNat len), .null] 6)) (T3.setTop (mkF m 27 #[.val (.ref a), .val (.ref b), .val (.int (Int32.ofNat o)), .val (.int (Int32.ofNat len)), .val .null, .unset] [])) := (c2.trans (st3 _ (Steps.refl _))).trans (by
    refine XS.iloadN X3.here hexec rfl (hb hbytes d4) rfl ?_
    refine XS.ifYes X3.here hexec rfl (pc0 := 5) rfl (hb hbytes d5) rfl (i0_ne_t (nz32 (by omega) l0)) (by decide) rfl ?_
    exact Steps.refl _)
  obtain ⟨T5, X5, q5, st5⟩ := X3.sget hexec hown (wk W (.fieldLink "java/lang/String" 38 "java/lang/String" "COMPACT_STRINGS" "Z")) s1 (fun _ _ h => by rw [hh3]; exact h) (g := (mkF m 27 #[.val (.ref a), .val (.ref b), .val (.int (Int32.ofNat o)), .val (.int (Int32.ofNat len)), .val .null, .unset] [])) rfl (hb hbytes d27)
  have hh5 := q5.trans hh3
  have c6 : Steps p.tables e below (s₁.setTop (entryFrame m #[.ref a, .ref b, .int (Int32.ofNat o), .int (Int32.ofNat len), .null] 6)) (T5.setTop (mkF m 30 #[.val (.ref a), .val (.ref b), .val (.int (Int32.ofNat o)), .val (.int (Int32.ofNat len)), .val .null, .unset] [.int z])) := c4.trans (st5 _ (Steps.refl _))
  have c7 : Steps p.tables e below (s₁.setTop (entryFrame m #[.ref a, .ref b, .int (Int32.ofNat o), .int (Int32.ofNat len), .null] 6)) (T5.setTop (mkF m 36 #[.val (.ref a), .val (.ref b), .val (.int (Int32.ofNat o)), .val (.int (Int32.ofNat len)), .val .null, .unset] [.int (Int32.ofNat len), .int (Int32.ofNat o), .ref b])) := c6.trans (by
    refine XS.ifNo X5.here hexec rfl (hb hbytes d30) rfl (i0_eq_f hz) ?_
    refine XS.aloadN X5.here hexec rfl (hb hbytes d33) rfl rfl ?_
    refine XS.iloadN X5.here hexec rfl (hb hbytes d34) rfl ?_
    refine XS.iloadN X5.here hexec rfl (hb hbytes d35) rfl ?_
    exact Steps.refl _)
  obtain ⟨v8, T8, X8, E8, g8⟩ := X5.callS hexec (Cmp3.law l b A o len) hown (wks W (staticW "java/lang/String" 177 Cmp3.yN)) (wk W Cmp3.tab) (W := 0) (Nat.le_of_ble_eq_true rfl) (Nat.le_of_ble_eq_true rfl) (Nat.le_refl _) (by show 0 + len ≤ len; omega) (g := (mkF m 36 #[.val (.ref a), .val (.ref b), .val (.int (Int32.ofNat o)), .val (.int (Int32.ofNat len)), .val .null, .unset] [.int (Int32.ofNat len), .int (Int32.ofNat o), .ref b])) rfl (by rw [hml]; rfl) c7 (argsL := [.ref b, .int (Int32.ofNat o), .int (Int32.ofNat len)]) (rest := []) rfl rfl (by show 2 * 0 + 0 ≤ _; decide) (hb hbytes d36) (⟨rfl, hA.mv X5.warmed.alike hh5, l1, l2, hp⟩)
  obtain ⟨e8, z8⟩ := E8
  obtain ⟨rfl, N, n1, n2, n3, n4, n5, n6⟩ := NewArr.mv _ T5 s _ _ hh5.symm (Vm.Alike.refl _) rfl e8
  rw [hh5] at z8
  have hB1 := hB.keep X8.warmed.alike (n6 _ _ hB.1)
  have hne : s.heap.size ≠ a := (Nat.ne_of_lt (Array.getElem?_eq_some_iff.mp hB.1).1).symm
  have c9 : Steps p.tables e below (s₁.setTop (entryFrame m #[.ref a, .ref b, .int (Int32.ofNat o), .int (Int32.ofNat len), .null] 6)) (T8.setTop (mkF m 39 #[.val (.ref a), .val (.ref b), .val (.int (Int32.ofNat o)), .val (.int (Int32.ofNat len)), .val .null, .unset] [.ref s.heap.size])) := g8
  have c10 : Steps p.tables e below (s₁.setTop (entryFrame m #[.ref a, .ref b, .int (Int32.ofNat o), .int (Int32.ofNat len), .null] 6)) (T8.setTop (mkF m 45 #[.val (.ref a), .val (.ref b), .val (.int (Int32.ofNat o)), .val (.int (Int32.ofNat len)), .val .null, .val (.ref s.heap.size)] [.int (Int32.ofNat N.slots.size), .ref s.heap.size, .ref a])) := by
    have hc : Steps p.tables e below (s₁.setTop (entryFrame m #[.ref a, .ref b, .int (Int32.ofNat o), .int (Int32.ofNat len), .null] 6)) (T8.setTop (mkF m 45 #[.val (.ref a), .val (.ref b), .val (.int (Int32.ofNat o)), .val (.int (Int32.ofNat len)), .val .null, .val (.ref s.heap.size)] [.int (Int32.ofNat len), .ref s.heap.size, .ref a])) := c9.trans (by
      refine XS.astore X8.here hexec rfl (hb hbytes d39) rfl rfl rfl ?_
      refine XS.aloadN X8.here hexec rfl (hb hbytes d41) rfl rfl ?_
      refine XS.aload X8.here hexec rfl (hb hbytes d42) rfl rfl ?_
      refine XS.iloadN X8.here hexec rfl (hb hbytes d44) rfl ?_
      exact Steps.refl _)
    rw [n4]; exact hc
  obtain ⟨v11, T11, X11, E11, g11⟩ := X8.callS hexec (CodL.law l s.heap.size N) hown (wks W (staticW "java/lang/String" 47 CodL.yN)) (wk W CodL.tab) (W := 1) (Nat.le_of_ble_eq_true rfl) (Nat.le_of_ble_eq_true rfl) (Nat.le_refl _) (by show 0 + len + 0 ≤ len; omega) (g := (mkF m 45 #[.val (.ref a), .val (.ref b), .val (.int (Int32.ofNat o)), .val (.int (Int32.ofNat len)), .val .null, .val (.ref s.heap.size)] [.int (Int32.ofNat N.slots.size), .ref s.heap.size, .ref a])) rfl (by rw [hml]; rfl) c10 (argsL := [.ref s.heap.size, .int (Int32.ofNat N.slots.size)]) (rest := [.ref a]) rfl rfl (by show 2 * 0 + (1 + 0) ≤ _; decide) (hb hbytes d45) (⟨rfl, n1⟩)
  obtain ⟨rfl, q11⟩ := E11
  have hB11 := hB1.mv (X8.warmed.alike.symm.trans X11.warmed.alike) q11
  have c12 : Steps p.tables e below (s₁.setTop (entryFrame m #[.ref a, .ref b, .int (Int32.ofNat o), .int (Int32.ofNat len), .null] 6)) (T11.setTop (mkF m 48 #[.val (.ref a), .val (.ref b), .val (.int (Int32.ofNat o)), .val (.int (Int32.ofNat len)), .val .null, .val (.ref s.heap.size)] [.int 0, .ref a])) := g11
  obtain ⟨T13, X13, p13, bl13, sl13, st13⟩ := X11.finit hexec hown (wk W (.fieldLink "java/lang/String" 15 "java/lang/String" "coder" "B")) (Or.inr ⟨_, (wk W (.laysFinal "java/lang/String" "java/lang/String" "coder" "B"))⟩) (Or.inl ⟨rfl, hnm⟩) f2 (Or.inl rfl) hB11 (t := .byte) (by decide +kernel) rfl (g := (mkF m 48 #[.val (.ref a), .val (.ref b), .val (.int (Int32.ofNat o)), .val (.int (Int32.ofNat len)), .val .null, .val (.ref s.heap.size)] [.int 0, .ref a])) rfl (rest := []) rfl (hb hbytes d48)
  have c14 : Steps p.tables e below (s₁.setTop (entryFrame m #[.ref a, .ref b, .int (Int32.ofNat o), .int (Int32.ofNat len), .null] 6)) (T13.setTop (mkF m 54 #[.val (.ref a), .val (.ref b), .val (.int (Int32.ofNat o)), .val (.int (Int32.ofNat len)), .val .null, .val (.ref s.heap.size)] [.ref s.heap.size, .ref a])) := (c12.trans (st13 _ (Steps.refl _))).trans (by
    refine XS.aloadN X13.here hexec rfl (hb hbytes d51) rfl rfl ?_
    refine XS.aload X13.here hexec rfl (hb hbytes d52) rfl rfl ?_
    exact Steps.refl _)
  obtain ⟨T15, X15, p15, bl15, sl15, st15⟩ := X13.finit hexec hown (wk W (.fieldLink "java/lang/String" 9 "java/lang/String" "value" "[B")) (Or.inr ⟨_, (wk W (.laysFinal "java/lang/String" "java/lang/String" "value" "[B"))⟩) (Or.inl ⟨rfl, hnm⟩) f1 (Or.inl rfl) bl13 (t := (.array .byte)) (by decide +kernel) rfl (g := (mkF m 54 #[.val (.ref a), .val (.ref b), .val (.int (Int32.ofNat o)), .val (.int (Int32.ofNat len)), .val .null, .val (.ref s.heap.size)] [.ref s.heap.size, .ref a])) rfl (rest := []) rfl (hb hbytes d54)
  have c16 : Steps p.tables e below (s₁.setTop (entryFrame m #[.ref a, .ref b, .int (Int32.ofNat o), .int (Int32.ofNat len), .null] 6)) (T15.setTop (mkF m 57 #[.val (.ref a), .val (.ref b), .val (.int (Int32.ofNat o)), .val (.int (Int32.ofNat len)), .val .null, .val (.ref s.heap.size)] [])) := c14.trans (st15 _ (Steps.refl _))
  have ap := apart (Or.inr ⟨_, (wk W (.laysFinal "java/lang/String" "java/lang/String" "value" "[B"))⟩) (Or.inr ⟨_, (wk W (.laysFinal "java/lang/String" "java/lang/String" "coder" "B"))⟩) f1 f2 (t₁ := .array .byte) (t₂ := .byte) (by decide +kernel) (by decide +kernel) (by decide)
  have al := X8.warmed.alike.symm.trans X15.warmed.alike
  have n7 : T11.heap[s.heap.size]? = some N := by rw [q11]; exact n1.1
  exact ⟨T15, none, _, _, _, X15, by simp, rfl, by omega, (fun _ => rfl), ⟨rfl, _, N, bl15, ((Same.refl D _).set _ (by simp)).set _ (by simp), sl15, (Cell.slots_setSlot_ne _ ap).trans sl13, n1.keep al (p15.other hne (p13.other hne n7)), n2, by rw [al.findClass]; exact n3, n4, n5, fun y c h1 h2 => p15.other h1 (p13.other h1 (by rw [q11]; exact n6 y c h2)), by rw [p15.2.2, p13.2.2, q11]; exact z8⟩, fun fs hl => c16.trans (X15.returnOut hexec hret (hb hbytes d57) hl)⟩
end New4
namespace New1
def yN : MethodName := ⟨"java/lang/String", "<init>", "([C)V"⟩
abbrev yB : ByteArray := jdk_42_method_3_code
theorem d0 : decode yB 0 = .ok (.aload_n 0, 1) := by decide +kernel
theorem d1 : decode yB 1 = .ok (.aload_n 1, 1) := by decide +kernel
theorem d2 : decode yB 2 = .ok (.iconst 0, 1) := by decide +kernel
theorem d3 : decode yB 3 = .ok (.aload_n 1, 1) := by decide +kernel
theorem d4 : decode yB 4 = .ok (.arraylength, 1) := by decide +kernel
theorem d5 : decode yB 5 = .ok (.aconst_null, 1) := by decide +kernel
theorem d6 : decode yB 6 = .ok (.invokespecial 27, 3) := by decide +kernel
theorem d9 : decode yB 9 = .ok (.return_, 1) := by decide +kernel
def site : List Cond := [New4.tab] ++ initW "java/lang/String" 27 New4.yN
def tab : Cond := tabOf yN yB 2 none site
def P (a : Addr) (D : Cell) (fV fC : Field) (b : Addr) (A : Cell) (z : Int32) (args : Array Value) (s : State) : Prop := args = #[.ref a, .ref b] ∧ Blank "java/lang/String" a D s ∧ Found "java/lang/String" "value" "[B" fV s ∧ Found "java/lang/String" "coder" "B" fC s ∧ Ch b A s ∧ StaticIs s "java/lang/String" "COMPACT_STRINGS" "Z" (.int z) ∧ ¬ z = 0 ∧ 0 < A.slots.size ∧ A.slots.size ≤ 536870912 ∧ ∀ i, i < A.slots.size → ¬ 255 < cv A i
def E (a : Addr) (D : Cell) (fV fC : Field) (A : Cell) (r : Option Value) (s u : State) : Prop := Got a D fV fC A 0 A.slots.size r s u
/-- new String(chars), not empty, no char above 255: a Latin-1 String of their low bytes -/
theorem law (l : Launch) (a : Addr) (D : Cell) (fV fC : Field) (b : Addr) (A : Cell) (z : Int32) : Law l yN 2 1 3 52 yB 2 none site (P a D fV fC b A z) (E a D fV fC A) [⟨a, fC.slot⟩, ⟨a, fV.slot⟩] 1 A.slots.size := by
  refine Law.of_walk (plainFor_of_name (by decide +kernel)) (by decide +kernel) (by decide +kernel) (by decide) (fun _ _ h => by rw [h.1]; rfl) (fun _ U U' hal hh h => ⟨h.1, h.2.1.mv hal hh, h.2.2.1.al hal, h.2.2.2.1.al hal, h.2.2.2.2.1.mv hal hh, h.2.2.2.2.2.1.there hal hh, h.2.2.2.2.2.2⟩) (fun r U U' V V' h1 hal h2 h => Got.mv r U U' V V' h1 hal h2 h) ?_
  intro p e s m args below meth c s₁ X0 hexec hbytes hml hret hlk hnm hown hh0 W hP
  obtain ⟨rfl, hB, f1, f2, hA, s1, hz, l0, l2, hp⟩ := hP
  have c1 : Steps p.tables e below (s₁.setTop (entryFrame m #[.ref a, .ref b] 2)) (s₁.setTop (mkF m 0 #[.val (.ref a), .val (.ref b)] [])) := entry rfl
  have c2 : Steps p.tables e below (s₁.setTop (entryFrame m #[.ref a, .ref b] 2)) (s₁.setTop (mkF m 6 #[.val (.ref a), .val (.ref b)] [.null, .int (Int32.ofNat A.slots.size), .int 0, .ref b, .ref a])) := c1.trans (by
    refine XS.aloadN X0.here hexec rfl (hb hbytes d0) rfl rfl ?_
    refine XS.aloadN X0.here hexec rfl (hb hbytes d1) rfl rfl ?_
    refine iconstV X0.here hexec rfl 0 (hb hbytes d2) (by decide) ?_
    refine XS.aloadN X0.here hexec rfl (hb hbytes d3) rfl rfl ?_
    refine X0.alen hexec (hA.1.mv X0.warmed.alike hh0) rfl rfl (hb hbytes d4) ?_
    refine XS.aconstNull X0.here hexec rfl (hb hbytes d5) ?_
    exact Steps.refl _)
  obtain ⟨v3, T3, X3, E3, g3⟩ := X0.callN hexec (New4.law l a D fV fC b A z 0 A.slots.size) rfl hown (wks W (initW "java/lang/String" 27 New4.yN)) (W New4.tab (by simp only [site, List.mem_cons, List.mem_append, true_or, or_true])) (W := 0) (Nat.le_of_ble_eq_true rfl) (Nat.le_of_ble_eq_true rfl) (Nat.le_refl _) (by show 0 + A.slots.size ≤ A.slots.size; omega) (g := (mkF m 6 #[.val (.ref a), .val (.ref b)] [.null, .int (Int32.ofNat A.slots.size), .int (Int32.ofNat 0), .ref b, .ref a])) rfl (by rw [hml]; rfl) c2 (argsL := [.ref b, .int (Int32.ofNat 0), .int (Int32.ofNat A.slots.size), .null]) (rest := []) rfl rfl (by show 2 * 0 + 0 ≤ _; decide) (hb hbytes d6) (⟨rfl, hB.mv X0.warmed.alike hh0, f1.al X0.warmed.alike, f2.al X0.warmed.alike, hA.mv X0.warmed.alike hh0, s1.there X0.warmed.alike hh0, hz, l0, by omega, l2, fun i hi => by rw [Nat.zero_add]; exact hp i hi⟩)
  have e0 := Got.mv _ s₁ s _ _ hh0.symm (Vm.Alike.refl _) rfl E3
  obtain rfl := e0.1
  have c4 : Steps p.tables e below (s₁.setTop (entryFrame m #[.ref a, .ref b] 2)) (T3.setTop (mkF m 9 #[.val (.ref a), .val (.ref b)] [])) := g3
  exact ⟨T3, none, _, _, _, X3, by simp, rfl, by omega, (fun _ => rfl), e0, fun fs hl => c4.trans (X3.returnOut hexec hret (hb hbytes d9) hl)⟩
theorem pays {l : Launch} {R : Room} {p : Program} {e : Env} {below : List Frame} {s : State} {sargs : Array Value} {len W : Nat} (a : Addr) (D : Cell) (fV fC : Field) (b : Addr) (A : Cell) (z : Int32) (htab : tab.before sargs s = true) (hfr : 4 ≤ R.frames) (hlo : W + 65 ≤ R.locals) :
    Back l R p e below s sargs yN len W (fun A₁ a₁ => A₁.cells + 1 ≤ R.cells ∧ A₁.slots + A.slots.size ≤ R.slots ∧ P a D fV fC b A z a₁ A₁.U) (fun A₁ _ v₁ B₁ => E a D fV fC A v₁ A₁.U B₁.U ∧ B₁.locs = A₁.locs ++ [⟨a, fC.slot⟩, ⟨a, fV.slot⟩] ∧ B₁.cells = A₁.cells + 1 ∧ B₁.slots = A₁.slots + A.slots.size) :=
  (law l a D fV fC b A z).pays htab hfr (by omega)
end New1
/-- the byte, read back as charAt reads it, is the char -/
theorem lo8_mask {x : Int32} (h0 : ¬ x < 0) (h1 : ¬ 255 < x) : lo8 x &&& 255 = x := by
  have t : ∀ k : Fin 256, lo8 (Int32.ofNat k.val) &&& 255 = Int32.ofNat k.val := by decide +kernel
  rw [Int32.lt_iff_toInt_lt] at h0 h1
  have e0 : (0 : Int32).toInt = 0 := rfl
  have e1 : (255 : Int32).toInt = 255 := rfl
  obtain ⟨k, hk⟩ : ∃ k : Nat, x.toInt = k := ⟨x.toInt.toNat, by omega⟩
  have hx : x = Int32.ofNat k := Int32.toInt_inj.mp (by rw [hk, Int32.toInt_ofNat_small (by omega)])
  rw [hx]
  exact t ⟨k, by omega⟩
end StrChars
namespace StrChars.Road
open Jvm Sem ClassFile Op Lib Jvm.Stand Jvm.Free Jvm.Free.XT
open Jvm.Lib.Cold (StaticIs)
abbrev ST : String := "java/lang/String"
/-- every table word that New1's law asks, flat -/
abbrev words : List Jvm.Cond := [.code New1.yN New1.yB 2 none, .initialized ST, .methodLink ST 27 New4.yN, .instanceMethod New4.yN,
  .code New4.yN New4.yB 6 none, .fieldLink ST 38 ST "COMPACT_STRINGS" "Z", .laysFinal ST ST "value" "[B", .fieldLink ST 9 ST "value" "[B", .laysFinal ST ST "coder" "B", .fieldLink ST 15 ST "coder" "B",
  .methodLink ST 1 Lib.objectInit, .instanceMethod Lib.objectInit, .code Lib.objectInit ⟨#[0xb1]⟩ 1 none, .methodLink ST 177 Cmp3.yN, .static Cmp3.yN, .methodLink ST 47 CodL.yN, .static CodL.yN,
  .code Cmp3.yN Cmp3.yB 6 (some (.array .byte)), .initialized U16, .arrayClass .byte, .methodLink U16 115 Cmp5.yN, .static Cmp5.yN, .code Cmp5.yN Cmp5.yB 7 (some .int), .code CodL.yN CodL.yB 2 (some .byte)]
theorem tab_of {a : Array Value} {s : State} (h : ∀ w ∈ words, w.before a s = true) : New1.tab.before a s = true := by
  have h5 : Cmp5.tab.before a s = true := unparts (wk h (.code Cmp5.yN Cmp5.yB 7 (some .int))) (wks h (.initialized Cmp5.yN.cls :: Cmp5.site))
  have hc : CodL.tab.before a s = true := unparts (wk h (.code CodL.yN CodL.yB 2 (some .byte))) (wks h (.initialized CodL.yN.cls :: CodL.site))
  have q5 : ∀ w ∈ Cmp5.tab :: words, w.before a s = true := fun w hw => (List.mem_cons.mp hw).elim (fun e => e ▸ h5) (h w)
  have h3 : Cmp3.tab.before a s = true := unparts (wk q5 (.code Cmp3.yN Cmp3.yB 6 (some (.array .byte)))) (wks q5 (.initialized Cmp3.yN.cls :: Cmp3.site))
  have q3 : ∀ w ∈ Cmp3.tab :: CodL.tab :: words, w.before a s = true := fun w hw => (List.mem_cons.mp hw).elim (fun e => e ▸ h3) fun hw => (List.mem_cons.mp hw).elim (fun e => e ▸ hc) (h w)
  have h4 : New4.tab.before a s = true := unparts (wk q3 (.code New4.yN New4.yB 6 none)) (wks q3 (.initialized New4.yN.cls :: New4.site))
  have q4 : ∀ w ∈ New4.tab :: words, w.before a s = true := fun w hw => (List.mem_cons.mp hw).elim (fun e => e ▸ h4) (h w)
  exact unparts (wk q4 (.code New1.yN New1.yB 2 none)) (wks q4 (.initialized New1.yN.cls :: New1.site))
/-- the words ride from the start Z to the walk's own state -/
theorem moved {Z s : State} {a0 args : Array Value} (hZ : Z.Warmed39 s.vm) (hw : ∀ d ∈ words, d.before a0 Z = true) : ∀ d ∈ words, d.before args s = true := fun d hd => by
  have q := hw d hd
  have t : ∀ d ∈ words, d = .arrayClass .byte ∨ (d.onTables && d.keepsFace) = true := by decide +kernel
  rcases t d hd with rfl | t
  · exact RoadKit.mvA hZ q
  · exact RoadKit.mv hZ q t
/-- WHAT COMES BACK, over the tables of the start Z: h the heap at the call, h' behind it -/
def Q (Z : State) (x : Addr) (A : Cell) (h : Heap) (v : Option Value) (h' : Heap) (L : List Loc) : Prop := v = none ∧ (∀ y ∈ L, y.base = x) ∧ RoadKit.Keep h h' [x] ∧ h'.size = h.size + 1 ∧ RoadKit.Exa Z h' x ST ∧ RoadKit.Fld Z h' x ST "value" "[B" (.ref h.size) ∧ RoadKit.Fld Z h' x ST "coder" "B" (.int 0) ∧
  (∃ V : Cell, RoadKit.Arr Z h' h.size V .byte ∧ V.vm = .none ∧ Z.vm.findClass "[B" = some V.cls ∧ V.slots.size = A.slots.size ∧ ∀ j, j < A.slots.size → V.slots[j]? = some (.int (lo8 (cv A j)))) ∧
  ∀ (O n d : String) (w : Value), RoadKit.Fld Z h x O n d w → RoadKit.slotOf Z O n d ≠ RoadKit.slotOf Z ST "value" "[B" → RoadKit.slotOf Z O n d ≠ RoadKit.slotOf Z ST "coder" "B" → RoadKit.Fld Z h' x O n d w
/-- **new String(chars) AT A CALL, IN THE ROAD'S FORM**: for specialBack behind newO: x the fresh String, b the char[] with the cell A -/
theorem back {p : Program} {l : Launch} {e : Env} {R : Room} {s : State} {args : Array Value} {below : List Frame} {len W : Nat} {Z : State} {a0 : Array Value} {h : Heap} (hZ : Z.Warmed39 s.vm) (hw : ∀ d ∈ words, d.before a0 Z = true) {kI : Nat} (wi : (Jvm.Cond.instantiable ST kI).before a0 Z = true)
    {x b : Addr} {A : Cell} {z : Int32} {v0 c0 : Value} (E : RoadKit.Exa Z h x ST) (V : RoadKit.Fld Z h x ST "value" "[B" v0) (C : RoadKit.Fld Z h x ST "coder" "B" c0) (K : RoadKit.Arr Z h b A .char) (hty : Typed .char A) (S : RoadKit.Sta Z h ST "COMPACT_STRINGS" "Z" (.int z)) (hz : ¬ z = 0)
    (l0 : 0 < A.slots.size) (l2 : A.slots.size ≤ 536870912) (hp : ∀ i, i < A.slots.size → ¬ 255 < cv A i) (hfr : 4 ≤ R.frames) (hlo : W + 65 ≤ R.locals) :
    Back l R p e below s args New1.yN len W (fun P a => a = #[.ref x, .ref b] ∧ P.U.heap = h ∧ P.cells + 1 ≤ R.cells ∧ P.slots + A.slots.size ≤ R.slots)
      (fun P _ v B => ∃ L, Q Z x A h v B.U.heap L ∧ B.locs = P.locs ++ L ∧ B.cells = P.cells + 1 ∧ B.slots = P.slots + A.slots.size) := by
  intro m meth c P g ig mk a X hg hsize hdg hW hn hp'
  obtain ⟨rfl, rfl, r1, r2⟩ := hp'
  have al : Z.vm.Alike P.U.vm := hZ.alike.trans X.warmed.alike
  obtain ⟨D, cfV, kV, iV, fV, hD, gV, stV, knV, obV, asV, slV⟩ := id V
  obtain ⟨D', cfC, kC, iC, fC, hD', gC, stC, -, -, asC, slC⟩ := id C
  cases hD.symm.trans hD'
  obtain ⟨D2, kD, e1, e2, e3, e4, e5⟩ := id E
  cases hD.symm.trans e1
  obtain ⟨c2, k2, i1, i2, i3, -⟩ := Cond.instantiable_spec wi
  cases e2.symm.trans i1
  cases e3.symm.trans i2
  obtain ⟨kU, u1, u2⟩ := al.2.2 _ _ e3
  have hB : Blank ST x D P.U := ⟨hD, ⟨knV, fun q hq => by rw [hq] at obV; cases obV⟩, by rw [al.findClass]; exact e2, kU, u1, by rw [u2]; exact i3, by rw [u2]; exact e5 i3⟩
  have F1 : Found ST "value" "[B" fV P.U := ⟨SBG.found_only al ⟨cfV, kV, iV, gV⟩, stV⟩
  have F2 : Found ST "coder" "B" fC P.U := ⟨SBG.found_only al ⟨cfC, kC, iC, gC⟩, stC⟩
  have hA : Ch b A P.U := ⟨⟨K.1, State.isArrayOf_alike al K.2.1, K.2.2, by omega⟩, hty⟩
  have hS : StaticIs P.U ST "COMPACT_STRINGS" "Z" (.int z) := by
    obtain ⟨cfS, iS, kS, fS, st, cS, t1, t2, t3, t4, t5, t6, t7⟩ := S
    exact StaticIs.there (s := { Z with heap := P.U.heap }) ⟨cfS, iS, kS, fS, st, cS, t1, t2, t3, t4, t5, (fun q => by rw [q] at t6; cases t6), t7⟩ al rfl
  obtain ⟨v, B, X', ⟨⟨hv, E', V', q1, q2, q3, q4, q5, q6, q7, q8, q9, q10, q11⟩, hl, hc, hs⟩, st⟩ := New1.pays x D fV fC b A z (tab_of (moved hZ hw)) hfr hlo m meth c P g ig mk _ X hg hsize hdg hW hn ⟨r1, r2, rfl, hB, F1, F2, hA, hS, hz, l0, l2, hp⟩
  have al' : Z.vm.Alike B.U.vm := hZ.alike.trans X'.warmed.alike
  have hsz : E'.slots.size = D.slots.size := by
    obtain ⟨-, -, -, kB, w1, w2, w3⟩ := q1
    obtain ⟨kB', y1, y2⟩ := al'.2.2 _ _ e3
    rw [q2.2.1] at w1
    cases w1.symm.trans y1
    rw [w3, e5 i3, y2]
  refine ⟨v, B, X', ⟨_, ⟨hv, ?_, ⟨by omega, fun y cy hy hn' => q10 y cy (by simpa using hn') hy, fun y cy hy => ?_⟩, q11, ⟨E', _, q1.1, by rw [q2.2.1]; exact e2, by rw [q2.2.1]; exact e3, by rw [q2.1]; exact obV, fun _ => by rw [hsz]; exact e5 i3⟩,
    ⟨E', cfV, kV, iV, fV, q1.1, gV, stV, by rw [q2.1]; exact knV, by rw [q2.1]; exact obV, by rw [q2.2.1]; exact asV, q3⟩, ⟨E', cfC, kC, iC, fC, q1.1, gC, stC, by rw [q2.1]; exact knV, by rw [q2.1]; exact obV, by rw [q2.2.1]; exact asC, q4⟩,
    ⟨V', ⟨q5.1, State.isArrayOf_alike al'.symm q5.2.1, q5.2.2.1⟩, q6, by rw [← al'.findClass]; exact q7, q8, fun j hj => by have := q9 j hj; rwa [Nat.zero_add] at this⟩, fun O n d w F n1 n2 => ?_⟩, hl, hc, hs⟩, st⟩
  · intro y hy
    simp only [List.mem_cons, List.not_mem_nil, or_false] at hy
    rcases hy with rfl | rfl <;> rfl
  · by_cases q : y = x
    · subst q
      cases hD.symm.trans hy
      exact ⟨E', q1.1, q2.2.1, q2.1, hsz⟩
    · exact ⟨cy, q10 y cy q hy, rfl, rfl, rfl⟩
  · obtain ⟨D3, cf, k, i, f, g1, g2, g3, g4, g5, g6, g7⟩ := F
    cases hD.symm.trans g1
    simp only [RoadKit.slotOf, g2, gV, gC, Option.map_some, Option.getD_some] at n1 n2
    exact ⟨E', cf, k, i, f, q1.1, g2, g3, by rw [q2.1]; exact g4, by rw [q2.1]; exact g5, by rw [q2.2.1]; exact g6, by rw [q2.2.2 f.slot (by simp [n1, n2])]; exact g7⟩
end StrChars.Road
namespace StrChars.Road
open Jvm Sem ClassFile Op Lib Jvm.Stand Jvm.Free Jvm.Free.XT
/-- WHAT COMES BACK, the byte[] as a list of values -/
def QA (Z : State) (x : Addr) (zn : Int32) (cs : List Int32) (h : Heap) (v : Option Value) (h' : Heap) (L : List Loc) : Prop := v = none ∧ (∀ y ∈ L, y.base = x) ∧ RoadKit.Keep h h' [x] ∧ h'.size = h.size + 1 ∧ RoadKit.Exa Z h' x ST ∧ RoadKit.Fld Z h' x ST "value" "[B" (.ref h.size) ∧ RoadKit.Fld Z h' x ST "coder" "B" (.int 0) ∧
  (∃ kb, Z.vm.findClass "[B" = some kb ∧ RoadKit.Arv Z h' h.size kb .byte zn (cs.map fun c => .int (lo8 c)) (.int 0)) ∧
  ∀ (O n d : String) (w : Value), RoadKit.Fld Z h x O n d w → RoadKit.slotOf Z O n d ≠ RoadKit.slotOf Z ST "value" "[B" → RoadKit.slotOf Z O n d ≠ RoadKit.slotOf Z ST "coder" "B" → RoadKit.Fld Z h' x O n d w
/-- **new String(chars) AT A CALL, THE ARRAYS AS LISTS**: the char[] at b holds cs, not empty, no char above 255 -/
theorem backArv {p : Program} {l : Launch} {e : Env} {R : Room} {s : State} {args : Array Value} {below : List Frame} {len W : Nat} {Z : State} {a0 : Array Value} {h : Heap} (hZ : Z.Warmed39 s.vm) (hw : ∀ d ∈ words, d.before a0 Z = true) {kI : Nat} (wi : (Jvm.Cond.instantiable ST kI).before a0 Z = true)
    {x b : Addr} {k : ClassId} {zn z : Int32} {cs : List Int32} {dv v0 c0 : Value} (E : RoadKit.Exa Z h x ST) (V : RoadKit.Fld Z h x ST "value" "[B" v0) (C : RoadKit.Fld Z h x ST "coder" "B" c0) (K : RoadKit.Arv Z h b k .char zn (cs.map Value.int) dv) (S : RoadKit.Sta Z h ST "COMPACT_STRINGS" "Z" (.int z)) (hz : ¬ z = 0)
    (hlen : zn.toNatClampNeg = cs.length) (h0 : 0 < cs.length) (hbig : cs.length ≤ 536870912) (hall : ∀ c ∈ cs, ¬ 255 < c) (hfr : 4 ≤ R.frames) (hlo : W + 65 ≤ R.locals) :
    Back l R p e below s args New1.yN len W (fun P a => a = #[.ref x, .ref b] ∧ P.U.heap = h ∧ P.cells + 1 ≤ R.cells ∧ P.slots + cs.length ≤ R.slots)
      (fun P _ v B => ∃ L, QA Z x zn cs h v B.U.heap L ∧ B.locs = P.locs ++ L ∧ B.cells = P.cells + 1 ∧ B.slots = P.slots + cs.length) := by
  obtain ⟨A, K1, K2, K3, K4, K5, K6⟩ := K
  have e : A.slots.size = cs.length := K3.trans hlen
  have hat : ∀ (i : Nat) (hi : i < cs.length), A.slots[i]? = some (.int cs[i]) := fun i hi => by rw [K5 i (by omega)]; simp [List.getD_eq_getElem?_getD, hi]
  have hcv : ∀ (i : Nat) (hi : i < cs.length), cv A i = cs[i] := fun i hi => by unfold cv; rw [hat i hi]
  have hty : Typed .char A := fun i v hv => by
    have hi : i < A.slots.size := (Array.getElem?_eq_some_iff.mp hv).1
    have q := K5 i hi
    rw [hv] at q
    rw [Option.some.inj q]
    exact K6 i hi
  refine Back.mono (back hZ hw wi E V C K1 hty S hz (by omega) (by omega) (fun i hi => by rw [hcv i (by omega)]; exact hall _ (List.getElem_mem _)) hfr hlo) (fun P a hp => ⟨hp.1, hp.2.1, hp.2.2.1, by rw [e]; exact hp.2.2.2⟩) (fun P a v B hp hq => ?_)
  obtain ⟨L, ⟨q1, q2, q3, q4, q5, q6, q7, ⟨V', v1, v2, v3, v4, v5⟩, q9⟩, hl, hc, hs⟩ := hq
  refine ⟨L, ⟨q1, q2, q3, q4, q5, q6, q7, ⟨V'.cls, v3, V', v1, rfl, by rw [v4, e, hlen], K4, fun i hi => ?_, fun i hi => ?_⟩, q9⟩, hl, hc, by rw [hs, e]⟩
  · have hi' : i < cs.length := by omega
    rw [v5 i (by omega), hcv i hi']; simp [List.getD_eq_getElem?_getD, hi']
  · have hi' : i < cs.length := by omega
    simp only [List.getD_eq_getElem?_getD, List.getElem?_map, List.getElem?_eq_getElem hi', Option.map_some, Option.getD_some]
    exact fits_lo8 _
end StrChars.Road
namespace StrChars.Road
open Jvm Sem ClassFile Op Lib Jvm.Stand Jvm.Free Jvm.Free.XT
/-- WHAT COMES BACK, in the writer's own shape -/
def QV (Z : State) (x : Addr) (N : Int32) (bs : List Int32) (h : Heap) (n0 : Nat) (v : Option Value) (h' : Heap) (L : List Loc) : Prop := v = none ∧ RoadKit.Fr n0 L ∧ RoadKit.Keep h h' [x] ∧ RoadKit.Exa Z h' x ST ∧ RoadKit.Fld Z h' x ST "coder" "B" (.int 0) ∧
  ∃ (t : Addr) (kb : ClassId), n0 ≤ t ∧ h.size ≤ t ∧ ¬ t = x ∧ RoadKit.Fld Z h' x ST "value" "[B" (.ref t) ∧ RoadKit.Arv Z h' t kb .byte N (bs.map Value.int) (.int 0)
/-- **new String(chars) AT A CALL, FOR THE WRITER**: a char[] of n known ints, each 0 to 255 -/
theorem backV {p : Program} {l : Launch} {e : Env} {R : Room} {s : State} {args : Array Value} {below : List Frame} {len W : Nat} {Z : State} {a0 : Array Value} {h : Heap} (hZ : Z.Warmed39 s.vm) (hw : ∀ d ∈ words, d.before a0 Z = true) {kI : Nat} (wi : (Jvm.Cond.instantiable ST kI).before a0 Z = true)
    {x b : Addr} {kC : ClassId} {cs bs : List Int32} {d v0 c0 : Value} {z N : Int32} {n n0 : Nat} (hx0 : n0 ≤ x) (hh0 : n0 ≤ h.size) (E : RoadKit.Exa Z h x ST) (V : RoadKit.Fld Z h x ST "value" "[B" v0) (C : RoadKit.Fld Z h x ST "coder" "B" c0) (K : RoadKit.Arv Z h b kC .char N (cs.map Value.int) d) (S : RoadKit.Sta Z h ST "COMPACT_STRINGS" "Z" (.int z)) (hz : ¬ z = 0)
    (hn : cs.length = n) (hN : N = Int32.ofNat n) (l0 : 0 < n) (l2 : n ≤ 4000) (hp : ∀ c ∈ cs, ¬ c < 0 ∧ ¬ (255 : Int32) < c) (hb : bs = cs.map (fun c => c.toInt8.toInt32)) (hfr : 4 ≤ R.frames) (hlo : W + 65 ≤ R.locals) :
    Back l R p e below s args (⟨"java/lang/String", "<init>", "([C)V"⟩ : MethodName) len W (fun P a => a = #[.ref x, .ref b] ∧ P.U.heap = h ∧ P.cells + 1 ≤ R.cells ∧ P.slots + n ≤ R.slots)
      (fun P _ v B => ∃ L, QV Z x N bs h n0 v B.U.heap L ∧ B.locs = P.locs ++ L ∧ B.cells = P.cells + 1 ∧ B.slots = P.slots + n) := by
  subst hn hN hb
  refine Back.mono (backArv hZ hw wi E V C K S hz (n32 (by omega)) l0 (by omega) (fun c hc => (hp c hc).2) hfr hlo) (fun P a hp => hp) (fun P a v B hp hq => ?_)
  obtain ⟨L, ⟨q1, q2, q3, q4, q5, q6, q7, ⟨kb, v1, v2⟩, q9⟩, hl, hc, hs⟩ := hq
  exact ⟨L, ⟨q1, fun y hy => by rw [q2 y hy]; exact hx0, q3, q5, q7, h.size, kb, hh0, Nat.le_refl _, Nat.ne_of_gt E.lt, q6, by rw [List.map_map]; exact v2⟩, hl, hc, hs⟩
end StrChars.Road
namespace StrChars
open Jvm Sem ClassFile Op Lib Jvm.Stand Jvm.Free.XT Jvm.Free.ALB Jvm.Free.JM Jvm.Free
open Jvm.Lib.Cold (StaticIs)
def hi8 (x : Int32) : Int32 := lo8 (x >>> ((8 : Int32) &&& 31))
/-- what StringUTF16.getChar makes of two bytes -/
def pairCh (u v : Int32) : Int32 := (((u &&& 255) <<< ((0 : Int32) &&& 31)) ||| ((v &&& 255) <<< ((8 : Int32) &&& 31))).toUInt32.toUInt16.toUInt32.toInt32
theorem lo8_and (x : Int32) : (lo8 x &&& 255).toBitVec.toNat = x.toBitVec.toNat % 256 := by
  have h : (lo8 x).toBitVec = (x.toBitVec.signExtend 8).signExtend 32 := by rw [lo8, Int8.toBitVec_toInt32, Int32.toBitVec_toInt8]
  rw [Int32.toBitVec_and, BitVec.toNat_and, h]
  have e : ((x.toBitVec.signExtend 8).signExtend 32).toNat % 256 = x.toBitVec.toNat % 256 := by
    rw [BitVec.toNat_signExtend]
    have hlt := x.toBitVec.isLt
    simp only [BitVec.toNat_setWidth, BitVec.toNat_signExtend]
    split <;> split <;> omega
  rw [← e]
  exact Nat.and_two_pow_sub_one_eq_mod _ 8
theorem pair_says {c : Int32} (h0 : ¬ c < 0) (h1 : ¬ 65535 < c) : pairCh (lo8 c) (hi8 c) = c := by
  rw [Int32.lt_iff_toInt_lt] at h0 h1
  have e0 : (0 : Int32).toInt = 0 := rfl
  have e1 : (65535 : Int32).toInt = 65535 := rfl
  have hc : c.toInt = c.toBitVec.toNat := by
    have := c.toBitVec.isLt
    have e : c.toInt = c.toBitVec.toInt := rfl
    rw [e] at h0 h1
    rw [e]
    rw [BitVec.toInt_eq_toNat_cond] at h0 h1 ⊢
    split at h0 <;> split <;> omega
  have hn : c.toBitVec.toNat < 65536 := by omega
  have a1 := lo8_and c
  have a2 : (hi8 c &&& 255).toBitVec.toNat = c.toBitVec.toNat / 256 := by
    rw [hi8, lo8_and]
    have e : ((8 : Int32) &&& 31) = 8 := by decide
    rw [e, Int32.toBitVec_shiftRight]
    have e2 : ((8 : Int32).toBitVec.smod 32) = 8#32 := by decide
    rw [e2, BitVec.sshiftRight_eq', BitVec.toNat_sshiftRight_of_msb_false (by rw [BitVec.msb_eq_false_iff_two_mul_lt]; omega)]
    show c.toBitVec.toNat >>> 8 % 256 = _
    rw [Nat.shiftRight_eq_div_pow]
    omega
  unfold pairCh
  apply Int32.toBitVec_inj.mp
  apply BitVec.eq_of_toNat_eq
  have f0 : ((0 : Int32) &&& 31) = 0 := by decide
  have f8 : ((8 : Int32) &&& 31) = 8 := by decide
  rw [f0, f8]
  have g : (((lo8 c &&& 255) <<< (0 : Int32)) ||| ((hi8 c &&& 255) <<< (8 : Int32))).toBitVec.toNat = c.toBitVec.toNat := by
    rw [Int32.toBitVec_or, Int32.toBitVec_shiftLeft, Int32.toBitVec_shiftLeft]
    have s0 : ((0 : Int32).toBitVec.smod 32) = 0#32 := by decide
    have s8 : ((8 : Int32).toBitVec.smod 32) = 8#32 := by decide
    rw [s0, s8, BitVec.toNat_or]
    simp only [BitVec.shiftLeft_eq', BitVec.toNat_shiftLeft, a1, a2]
    show (c.toBitVec.toNat % 256) <<< 0 % 2 ^ 32 ||| (c.toBitVec.toNat / 256) <<< 8 % 2 ^ 32 = _
    rw [Nat.shiftLeft_zero, Nat.mod_eq_of_lt (show c.toBitVec.toNat % 256 < 2 ^ 32 by omega), Nat.mod_eq_of_lt (show (c.toBitVec.toNat / 256) <<< 8 < 2 ^ 32 by rw [Nat.shiftLeft_eq]; omega), Nat.or_comm, ← Nat.shiftLeft_add_eq_or_of_lt (by omega), Nat.shiftLeft_eq]
    omega
  show BitVec.toNat (((((lo8 c &&& 255) <<< (0 : Int32)) ||| ((hi8 c &&& 255) <<< (8 : Int32))).toBitVec.setWidth 16).setWidth 32) = _
  rw [BitVec.toNat_setWidth, BitVec.toNat_setWidth, g]
  omega
end StrChars
namespace StrChars
open Jvm Sem ClassFile Op Lib Jvm.Stand Jvm.Free.XT Jvm.Free.ALB Jvm.Free.JM Jvm.Free
open Jvm.Lib.Cold (StaticIs)
/-- the array's cell V codes the n chars f 0 .. f (n - 1) by the coder cd, as the JDK does: coder 1 just where some char is above 255 -/
def Cod (cd : Int32) (n : Nat) (f : Nat → Int32) (V : Cell) : Prop := (cd = 0 ∧ V.slots.size = n ∧ ∀ j, j < n → V.slots[j]? = some (.int (lo8 (f j))) ∧ ¬ 255 < f j) ∨ (cd = 1 ∧ V.slots.size = 2 * n ∧ (∀ j, j < n → V.slots[2 * j]? = some (.int (lo8 (f j))) ∧ V.slots[2 * j + 1]? = some (.int (hi8 (f j)))) ∧ ∃ j, j < n ∧ 255 < f j)
/-- **x is a String of the n chars f 0 .. f (n - 1)**, Latin-1 or UTF-16; its array at t has the cell V -/
def Txt (x t : Addr) (V : Cell) (cd : Int32) (n : Nat) (f : Nat → Int32) (U : State) : Prop := Exact "java/lang/String" x U ∧ Has x "java/lang/String" "value" "[B" (.ref t) U ∧ Has x "java/lang/String" "coder" "B" (.int cd) U ∧ XT.Arr .byte t V U ∧ Cod cd n f V ∧ ∀ j, j < n → ¬ f j < 0 ∧ ¬ 65535 < f j
theorem Txt.mv {x t : Addr} {V : Cell} {cd : Int32} {n : Nat} {f : Nat → Int32} {U U' : State} (h : Txt x t V cd n f U) (hal : U.vm.Alike U'.vm) (hh : U'.heap = U.heap) : Txt x t V cd n f U' := ⟨h.1.mv hal hh, h.2.1.mv hal hh, h.2.2.1.mv hal hh, h.2.2.2.1.mv hal hh, h.2.2.2.2⟩
end StrChars
namespace StrChars.Road
open Jvm Sem ClassFile Op Lib Jvm.Stand Jvm.Free Jvm.Free.XT
open Jvm.Lib.Cold (StaticIs)
theorem consq {a : Array Value} {s : State} {c : Jvm.Cond} {L : List Jvm.Cond} (h0 : c.before a s = true) (h : ∀ w ∈ L, w.before a s = true) : ∀ w ∈ c :: L, w.before a s = true := fun w hw => (List.mem_cons.mp hw).elim (fun e => e ▸ h0) (h w)
/-- the bytes of the chars cs, low before high -/
def wideBytes : List Int32 → List Value
  | [] => []
  | c :: cs => .int (lo8 c) :: .int (hi8 c) :: wideBytes cs
theorem wide_lo (d : Value) : ∀ (cs : List Int32) (j : Nat), j < cs.length → (wideBytes cs).getD (2 * j) d = .int (lo8 (cs.getD j 0))
  | [], j, h => absurd h (Nat.not_lt_zero j)
  | c :: cs, 0, _ => rfl
  | c :: cs, j + 1, h => by
    have q := wide_lo d cs j (by simpa using h)
    rw [show 2 * (j + 1) = 2 * j + 1 + 1 from by omega]
    simpa [wideBytes] using q
theorem wide_hi (d : Value) : ∀ (cs : List Int32) (j : Nat), j < cs.length → (wideBytes cs).getD (2 * j + 1) d = .int (hi8 (cs.getD j 0))
  | [], j, h => absurd h (Nat.not_lt_zero j)
  | c :: cs, 0, _ => rfl
  | c :: cs, j + 1, h => by
    have q := wide_hi d cs j (by simpa using h)
    rw [show 2 * (j + 1) + 1 = 2 * j + 1 + 1 + 1 from by omega]
    simpa [wideBytes] using q
theorem low_at (d : Value) (cs : List Int32) (j : Nat) (h : j < cs.length) : (cs.map fun c => Value.int (lo8 c)).getD j d = .int (lo8 (cs.getD j 0)) := by
  simp [List.getD_eq_getElem?_getD, h]
/-- an array of N2 bytes vs codes the chars cs by the coder cd -/
def CodA (cs : List Int32) (cd N2 : Int32) (vs : List Value) : Prop := (cd = 0 ∧ N2 = Int32.ofNat cs.length ∧ vs = (cs.map fun c => Value.int (lo8 c)) ∧ ∀ c ∈ cs, ¬ 255 < c) ∨ (cd = 1 ∧ N2 = Int32.ofNat (2 * cs.length) ∧ vs = wideBytes cs ∧ ∃ c ∈ cs, 255 < c)
theorem CodA.cod {cs : List Int32} {cd N2 : Int32} {vs : List Value} {V : Cell} (h : CodA cs cd N2 vs) (hn : 2 * cs.length < 2 ^ 31) (hs : V.slots.size = N2.toNatClampNeg) (hv : RoadKit.Has V vs (.int 0)) : Cod cd cs.length (fun j => cs.getD j 0) V := by
  rcases h with ⟨rfl, rfl, rfl, h⟩ | ⟨rfl, rfl, rfl, c, hc, hw⟩
  · rw [n32 (by omega)] at hs
    exact Or.inl ⟨rfl, hs, fun j hj => ⟨by rw [hv j (by omega), low_at _ _ _ hj], by
      have e : cs.getD j 0 = cs[j] := by simp [List.getD_eq_getElem?_getD, hj]
      show ¬ 255 < cs.getD j 0
      rw [e]; exact h _ (List.getElem_mem _)⟩⟩
  · rw [n32 (by omega)] at hs
    obtain ⟨j, hj, rfl⟩ := List.getElem_of_mem hc
    exact Or.inr ⟨rfl, hs, fun j hj => ⟨by rw [hv _ (by omega), wide_lo _ _ _ hj], by rw [hv _ (by omega), wide_hi _ _ _ hj]⟩, j, hj, by
      have e : cs.getD j 0 = cs[j] := by simp [List.getD_eq_getElem?_getD, hj]
      show 255 < cs.getD j 0
      rw [e]; exact hw⟩
/-- an object of exactly java/lang/String, its two fields found: as the laws ask it -/
theorem strObj {Z U : State} {a0 : Array Value} {kI : Nat} (wi : (Jvm.Cond.instantiable ST kI).before a0 Z = true) (al : Z.vm.Alike U.vm) {x : Addr} {v0 c0 : Value} (E : RoadKit.Exa Z U.heap x ST) (V : RoadKit.Fld Z U.heap x ST "value" "[B" v0) (C : RoadKit.Fld Z U.heap x ST "coder" "B" c0) :
    ∃ (D : Cell) (fV fC : Field), Blank ST x D U ∧ Found ST "value" "[B" fV U ∧ Found ST "coder" "B" fC U ∧ D.slots[fV.slot]? = some v0 ∧ D.slots[fC.slot]? = some c0 ∧ RoadKit.slotOf Z ST "value" "[B" = fV.slot ∧ RoadKit.slotOf Z ST "coder" "B" = fC.slot := by
  obtain ⟨D, cfV, kV, iV, fV, hD, gV, stV, knV, obV, asV, slV⟩ := V
  obtain ⟨D', cfC, kC, iC, fC, hD', gC, stC, -, -, asC, slC⟩ := C
  cases hD.symm.trans hD'
  obtain ⟨D2, kD, e1, e2, e3, e4, e5⟩ := E
  cases hD.symm.trans e1
  obtain ⟨c2, k2, i1, i2, i3, -⟩ := Cond.instantiable_spec wi
  cases e2.symm.trans i1
  cases e3.symm.trans i2
  obtain ⟨kU, u1, u2⟩ := al.2.2 _ _ e3
  exact ⟨D, fV, fC, ⟨hD, ⟨knV, fun q hq => by rw [hq] at obV; cases obV⟩, by rw [al.findClass]; exact e2, kU, u1, by rw [u2]; exact i3, by rw [u2]; exact e5 i3⟩, ⟨SBG.found_only al ⟨cfV, kV, iV, gV⟩, stV⟩, ⟨SBG.found_only al ⟨cfC, kC, iC, gC⟩, stC⟩, slV, slC, by simp [RoadKit.slotOf, gV], by simp [RoadKit.slotOf, gC]⟩
theorem sta_is {Z U : State} (al : Z.vm.Alike U.vm) {C n d : String} {v : Value} (S : RoadKit.Sta Z U.heap C n d v) : StaticIs U C n d v := by
  obtain ⟨cfS, iS, kS, fS, st, cS, t1, t2, t3, t4, t5, t6, t7⟩ := S
  exact StaticIs.there (s := { Z with heap := U.heap }) ⟨cfS, iS, kS, fS, st, cS, t1, t2, t3, t4, t5, (fun q => by rw [q] at t6; cases t6), t7⟩ al rfl
end StrChars.Road
namespace StrChars
open Jvm Sem ClassFile Op Lib Jvm.Stand Jvm.Free.XT Jvm.Free.ALB Jvm.Free.JM Jvm.Free
open Jvm.Lib.Cold (StaticIs)
/-- what place i of a byte[]'s cell holds -/
def yv (A : Cell) (i : Nat) : Int32 := match A.slots[i]? with | some (.int x) => x | _ => 0
theorem yv_get {a : Addr} {A : Cell} {U : State} (h : XT.Arr .byte a A U) (ht : Typed .byte A) {i : Nat} (hi : i < A.slots.size) : A.slots[i]? = some (.int (yv A i)) := by
  have e := Array.getElem?_eq_getElem hi
  have f := ht i _ e
  unfold yv; rw [e]
  generalize A.slots[i] = v at f
  cases v <;> simp [fits] at f ⊢
/-- the two arrays are equal, place for place -/
def EqC (A B : Cell) : Prop := A.slots.size = B.slots.size ∧ ∀ i, i < A.slots.size → yv A i = yv B i
/-- a boolean that says whether p -/
def Says01 (q : Prop) (r : Option Value) (s u : State) : Prop := ∃ v : Int32, r = some (.int v) ∧ u.heap = s.heap ∧ ((v = 1 ∧ q) ∨ (v = 0 ∧ ¬ q))
theorem Says01.mv {q : Prop} : ∀ r (U U' V V' : State), U'.heap = U.heap → V.vm.Alike V'.vm → V'.heap = V.heap → Says01 q r U V → Says01 q r U' V' :=
  fun r U U' V V' h1 _ h2 ⟨v, a, b, c⟩ => ⟨v, a, by rw [h1, h2]; exact b, c⟩
namespace LEq
def yN : MethodName := ⟨"java/lang/StringLatin1", "equals", "([B[B)Z"⟩
abbrev yB : ByteArray := jdk_43_method_13_code
theorem d0 : decode yB 0 = .ok (.aload_n 0, 1) := by decide +kernel
theorem d1 : decode yB 1 = .ok (.arraylength, 1) := by decide +kernel
theorem d2 : decode yB 2 = .ok (.aload_n 1, 1) := by decide +kernel
theorem d3 : decode yB 3 = .ok (.arraylength, 1) := by decide +kernel
theorem d4 : decode yB 4 = .ok (.if_icmp (.ne) 30, 3) := by decide +kernel
theorem d7 : decode yB 7 = .ok (.iconst 0, 1) := by decide +kernel
theorem d8 : decode yB 8 = .ok (.istore_n 2, 1) := by decide +kernel
theorem d9 : decode yB 9 = .ok (.iload_n 2, 1) := by decide +kernel
theorem d10 : decode yB 10 = .ok (.aload_n 0, 1) := by decide +kernel
theorem d11 : decode yB 11 = .ok (.arraylength, 1) := by decide +kernel
theorem d12 : decode yB 12 = .ok (.if_icmp (.ge) 20, 3) := by decide +kernel
theorem d15 : decode yB 15 = .ok (.aload_n 0, 1) := by decide +kernel
theorem d16 : decode yB 16 = .ok (.iload_n 2, 1) := by decide +kernel
theorem d17 : decode yB 17 = .ok (.baload, 1) := by decide +kernel
theorem d18 : decode yB 18 = .ok (.aload_n 1, 1) := by decide +kernel
theorem d19 : decode yB 19 = .ok (.iload_n 2, 1) := by decide +kernel
theorem d20 : decode yB 20 = .ok (.baload, 1) := by decide +kernel
theorem d21 : decode yB 21 = .ok (.if_icmp (.eq) 5, 3) := by decide +kernel
theorem d24 : decode yB 24 = .ok (.iconst 0, 1) := by decide +kernel
theorem d25 : decode yB 25 = .ok (.ireturn, 1) := by decide +kernel
theorem d26 : decode yB 26 = .ok (.iinc 2 1, 3) := by decide +kernel
theorem d29 : decode yB 29 = .ok (.goto (-20), 3) := by decide +kernel
theorem d32 : decode yB 32 = .ok (.iconst 1, 1) := by decide +kernel
theorem d33 : decode yB 33 = .ok (.ireturn, 1) := by decide +kernel
theorem d34 : decode yB 34 = .ok (.iconst 0, 1) := by decide +kernel
theorem d35 : decode yB 35 = .ok (.ireturn, 1) := by decide +kernel
def site : List Cond := []
def tab : Cond := tabOf yN yB 3 (some .boolean) site
def P (a : Addr) (A : Cell) (b : Addr) (B : Cell) (args : Array Value) (s : State) : Prop := args = #[.ref a, .ref b] ∧ XT.Arr .byte a A s ∧ Typed .byte A ∧ XT.Arr .byte b B s ∧ Typed .byte B
/-- whether two byte[] are equal, place for place -/
theorem law (l : Launch) (a : Addr) (A : Cell) (b : Addr) (B : Cell) : Law l yN 2 2 0 0 yB 3 (some .boolean) site (P a A b B) (Says01 (EqC A B)) [] 0 0 := by
  refine Law.of_walk (plainFor_of_name (by decide +kernel)) (by decide +kernel) (by decide +kernel) (by decide) (fun _ _ h => by rw [h.1]; rfl) (fun _ U U' hal hh h => ⟨h.1, h.2.1.mv hal hh, h.2.2.1, h.2.2.2.1.mv hal hh, h.2.2.2.2⟩) (fun r U U' V V' h1 hal h2 h => Says01.mv r U U' V V' h1 hal h2 h) ?_
  intro p e s m args below meth c s₁ X0 hexec hbytes hml hret hlk hnm hown hh0 W hP
  obtain ⟨rfl, hA, tA, hB, tB⟩ := hP
  have a31 := hA.2.2.2
  have b31 := hB.2.2.2
  have hA0 := hA.mv X0.warmed.alike hh0
  have hB0 := hB.mv X0.warmed.alike hh0
  have c1 : Steps p.tables e below (s₁.setTop (entryFrame m #[.ref a, .ref b] 3)) (s₁.setTop (mkF m 0 #[.val (.ref a), .val (.ref b), .unset] [])) := entry rfl
  have c2 : Steps p.tables e below (s₁.setTop (entryFrame m #[.ref a, .ref b] 3)) (s₁.setTop (mkF m 4 #[.val (.ref a), .val (.ref b), .unset] [.int (Int32.ofNat B.slots.size), .int (Int32.ofNat A.slots.size)])) := c1.trans (by
    refine XS.aloadN X0.here hexec rfl (hb hbytes d0) rfl rfl ?_
    refine X0.alen hexec hA0 rfl rfl (hb hbytes d1) ?_
    refine XS.aloadN X0.here hexec rfl (hb hbytes d2) rfl rfl ?_
    refine X0.alen hexec hB0 rfl rfl (hb hbytes d3) ?_
    exact Steps.refl _)
  by_cases hs : A.slots.size = B.slots.size
  · have c3 : Steps p.tables e below (s₁.setTop (entryFrame m #[.ref a, .ref b] 3)) (s₁.setTop (mkF m 9 #[.val (.ref a), .val (.ref b), .val (.int 0)] [])) := c2.trans (by
      refine XS.icmpNo X0.here hexec rfl (hb hbytes d4) rfl (ii_ne_f (by rw [hs])) ?_
      refine iconstV X0.here hexec rfl 0 (hb hbytes d7) (by decide) ?_
      refine XS.istoreN X0.here hexec rfl (hb hbytes d8) rfl rfl ?_
      exact Steps.refl _)
    have loop : ∀ (r i : Nat), i + r = A.slots.size → (∀ j, j < i → yv A j = yv B j) → Steps p.tables e below (s₁.setTop (entryFrame m #[.ref a, .ref b] 3)) (s₁.setTop (mkF m 9 #[.val (.ref a), .val (.ref b), .val (.int (Int32.ofNat i))] [])) → ∃ (pc : Nat) (Ls : Array Slot) (v : Int32), (pc = 25 ∨ pc = 33) ∧ ((v = 1 ∧ EqC A B) ∨ (v = 0 ∧ ¬ EqC A B)) ∧ Steps p.tables e below (s₁.setTop (entryFrame m #[.ref a, .ref b] 3)) (s₁.setTop (mkF m pc Ls [.int v])) := by
      intro r
      induction r with
      | zero =>
        intro i hi he cl
        exact ⟨33, _, 1, Or.inr rfl, Or.inl ⟨rfl, hs, fun j hj => he j (by omega)⟩, cl.trans (by
          refine XS.iloadN X0.here hexec rfl (hb hbytes d9) rfl ?_
          refine XS.aloadN X0.here hexec rfl (hb hbytes d10) rfl rfl ?_
          refine X0.alen hexec hA0 rfl rfl (hb hbytes d11) ?_
          refine XS.icmpYes X0.here hexec rfl (pc0 := 12) rfl (hb hbytes d12) rfl (ii_ge_t (nlt32 (by omega) (by omega))) (by decide) rfl ?_
          refine iconstV X0.here hexec rfl 1 (hb hbytes d32) (by decide) ?_
          exact Steps.refl _)⟩
      | succ r ih =>
        intro i hi he cl
        have c4 : Steps p.tables e below (s₁.setTop (entryFrame m #[.ref a, .ref b] 3)) (s₁.setTop (mkF m 21 #[.val (.ref a), .val (.ref b), .val (.int (Int32.ofNat i))] [.int (yv B i), .int (yv A i)])) := cl.trans (by
          refine XS.iloadN X0.here hexec rfl (hb hbytes d9) rfl ?_
          refine XS.aloadN X0.here hexec rfl (hb hbytes d10) rfl rfl ?_
          refine X0.alen hexec hA0 rfl rfl (hb hbytes d11) ?_
          refine XS.icmpNo X0.here hexec rfl (hb hbytes d12) rfl (ii_ge_f (lt32 (by omega) (by omega))) ?_
          refine XS.aloadN X0.here hexec rfl (hb hbytes d15) rfl rfl ?_
          refine XS.iloadN X0.here hexec rfl (hb hbytes d16) rfl ?_
          refine X0.aget hexec hA0 rfl (yv_get hA tA (i := i) (by omega)) rfl rfl (hb hbytes d17) ?_
          refine XS.aloadN X0.here hexec rfl (hb hbytes d18) rfl rfl ?_
          refine XS.iloadN X0.here hexec rfl (hb hbytes d19) rfl ?_
          refine X0.aget hexec hB0 rfl (yv_get hB tB (i := i) (by omega)) rfl rfl (hb hbytes d20) ?_
          exact Steps.refl _)
        by_cases hv : yv A i = yv B i
        · have c5 : Steps p.tables e below (s₁.setTop (entryFrame m #[.ref a, .ref b] 3)) (s₁.setTop (mkF m 9 #[.val (.ref a), .val (.ref b), .val (.int (Int32.ofNat i + 1))] [])) := c4.trans (by
            refine XS.icmpYes X0.here hexec rfl (pc0 := 21) rfl (hb hbytes d21) rfl (ii_eq_t hv) (by decide) rfl ?_
            refine iincV X0.here hexec rfl 1 (hb hbytes d26) (by decide) rfl rfl ?_
            refine XS.goto X0.here hexec rfl (pc0 := 29) rfl (hb hbytes d29) (by decide) rfl ?_
            exact Steps.refl _)
          rw [succ32] at c5
          exact ih (i + 1) (by omega) (fun j hj => by
            by_cases e : j = i
            · rw [e]; exact hv
            · exact he j (by omega)) c5
        · exact ⟨25, _, 0, Or.inl rfl, Or.inr ⟨rfl, fun q => hv (q.2 i (by omega))⟩, c4.trans (by
            refine XS.icmpNo X0.here hexec rfl (hb hbytes d21) rfl (ii_eq_f hv) ?_
            refine iconstV X0.here hexec rfl 0 (hb hbytes d24) (by decide) ?_
            exact Steps.refl _)⟩
    obtain ⟨pc, Ls, v, hpc, hv, cz⟩ := loop A.slots.size 0 (by omega) (fun j hj => absurd hj (Nat.not_lt_zero j)) c3
    have nv : narrow .boolean (.int v) = .int v := by rcases hv with ⟨rfl, -⟩ | ⟨rfl, -⟩ <;> rfl
    rcases hpc with rfl | rfl
    · exact ⟨s₁, some (.int v), _, _, _, X0, rfl, rfl, rfl, (fun h => by cases h), ⟨v, rfl, hh0, hv⟩, fun fs hl => cz.trans (X0.ireturnOut hexec hret nv (Or.inr (Or.inl rfl)) (hb hbytes d25) hl)⟩
    · exact ⟨s₁, some (.int v), _, _, _, X0, rfl, rfl, rfl, (fun h => by cases h), ⟨v, rfl, hh0, hv⟩, fun fs hl => cz.trans (X0.ireturnOut hexec hret nv (Or.inr (Or.inl rfl)) (hb hbytes d33) hl)⟩
  · have c3 : Steps p.tables e below (s₁.setTop (entryFrame m #[.ref a, .ref b] 3)) (s₁.setTop (mkF m 35 #[.val (.ref a), .val (.ref b), .unset] [.int 0])) := c2.trans (by
      refine XS.icmpYes X0.here hexec rfl (pc0 := 4) rfl (hb hbytes d4) rfl (ii_ne_t (ne32 a31 b31 hs)) (by decide) rfl ?_
      refine iconstV X0.here hexec rfl 0 (hb hbytes d34) (by decide) ?_
      exact Steps.refl _)
    exact ⟨s₁, some (.int 0), _, _, _, X0, rfl, rfl, rfl, (fun h => by cases h), ⟨0, rfl, hh0, Or.inr ⟨rfl, fun q => hs q.1⟩⟩, fun fs hl => c3.trans (X0.ireturnOut hexec hret rfl (Or.inr (Or.inl rfl)) (hb hbytes d35) hl)⟩
end LEq
theorem Cod.ty {cd : Int32} {n : Nat} {f : Nat → Int32} {V : Cell} (h : Cod cd n f V) : Typed .byte V := fun i v hv => by
  have hi : i < V.slots.size := (Array.getElem?_eq_some_iff.mp hv).1
  rcases h with ⟨-, k1, k2⟩ | ⟨-, k1, k2, -⟩
  · rw [(k2 i (by omega)).1] at hv; cases hv; exact fits_lo8 _
  · rcases Nat.mod_two_eq_zero_or_one i with e | e
    · obtain ⟨j, rfl⟩ : ∃ j, i = 2 * j := ⟨i / 2, by omega⟩
      rw [(k2 j (by omega)).1] at hv; cases hv; exact fits_lo8 _
    · obtain ⟨j, rfl⟩ : ∃ j, i = 2 * j + 1 := ⟨i / 2, by omega⟩
      rw [(k2 j (by omega)).2] at hv; cases hv; exact fits_lo8 _
/-- the same text -/
def SameT (n : Nat) (f : Nat → Int32) (k : Nat) (g : Nat → Int32) : Prop := n = k ∧ ∀ j, j < n → f j = g j
theorem lo8_inj {x y : Int32} (h0 : ¬ x < 0) (h1 : ¬ 255 < x) (k0 : ¬ y < 0) (k1 : ¬ 255 < y) (h : lo8 x = lo8 y) : x = y := by
  rw [← lo8_mask h0 h1, ← lo8_mask k0 k1, h]
/-- arrays coded by one coder are equal just where the texts are -/
theorem Cod.eqv {cd : Int32} {n k : Nat} {f g : Nat → Int32} {V V' : Cell} (h : Cod cd n f V) (h' : Cod cd k g V') (hf : ∀ j, j < n → ¬ f j < 0 ∧ ¬ 65535 < f j) (hg : ∀ j, j < k → ¬ g j < 0 ∧ ¬ 65535 < g j) : EqC V V' ↔ SameT n f k g := by
  have yvv : ∀ {W : Cell} {i : Nat} {x : Int32}, W.slots[i]? = some (.int x) → yv W i = x := fun q => by unfold yv; rw [q]
  rcases h with ⟨rfl, k1, k2⟩ | ⟨rfl, k1, k2, -⟩
  · rcases h' with ⟨-, m1, m2⟩ | ⟨e, -⟩
    · constructor
      · rintro ⟨e1, e2⟩
        refine ⟨by omega, fun j hj => ?_⟩
        have q := e2 j (by omega)
        rw [yvv (k2 j hj).1, yvv (m2 j (by omega)).1] at q
        exact lo8_inj (hf j hj).1 (k2 j hj).2 (hg j (by omega)).1 (m2 j (by omega)).2 q
      · rintro ⟨rfl, e2⟩
        refine ⟨by omega, fun j hj => ?_⟩
        rw [yvv (k2 j (by omega)).1, yvv (m2 j (by omega)).1, e2 j (by omega)]
    · exact absurd e (by decide)
  · rcases h' with ⟨e, -⟩ | ⟨-, m1, m2, -⟩
    · exact absurd e (by decide)
    · constructor
      · rintro ⟨e1, e2⟩
        refine ⟨by omega, fun j hj => ?_⟩
        have q1 := e2 (2 * j) (by omega)
        have q2 := e2 (2 * j + 1) (by omega)
        rw [yvv (k2 j hj).1, yvv (m2 j (by omega)).1] at q1
        rw [yvv (k2 j hj).2, yvv (m2 j (by omega)).2] at q2
        rw [← pair_says (hf j hj).1 (hf j hj).2, ← pair_says (hg j (by omega)).1 (hg j (by omega)).2, q1, q2]
      · rintro ⟨rfl, e2⟩
        refine ⟨by omega, fun i hi => ?_⟩
        rcases Nat.mod_two_eq_zero_or_one i with e | e
        · obtain ⟨j, rfl⟩ : ∃ j, i = 2 * j := ⟨i / 2, by omega⟩
          rw [yvv (k2 j (by omega)).1, yvv (m2 j (by omega)).1, e2 j (by omega)]
        · obtain ⟨j, rfl⟩ : ∃ j, i = 2 * j + 1 := ⟨i / 2, by omega⟩
          rw [yvv (k2 j (by omega)).2, yvv (m2 j (by omega)).2, e2 j (by omega)]
/-- two codings differ: so do the texts -/
theorem Cod.dif {cd cd' : Int32} {n k : Nat} {f g : Nat → Int32} {V V' : Cell} (h : Cod cd n f V) (h' : Cod cd' k g V') (hne : ¬ cd = cd') : ¬ SameT n f k g := by
  rintro ⟨rfl, e⟩
  rcases h with ⟨rfl, -, k2⟩ | ⟨rfl, -, -, j, hj, hw⟩
  · rcases h' with ⟨rfl, -⟩ | ⟨-, -, -, j, hj, hw⟩
    · exact hne rfl
    · exact (k2 j hj).2 (by rw [e j hj]; exact hw)
  · rcases h' with ⟨-, -, m2⟩ | ⟨rfl, -⟩
    · exact (m2 j hj).2 (by rw [← e j hj]; exact hw)
    · exact hne rfl
/-- an object of exactly C is an instance of C -/
theorem cinst {p : Program} {l : Launch} {e : Env} {R : Room} {s : State} {m : MethodId} {args : Array Value} {below : List Frame} {meth : Method} {c : Code} {T : State} {locs : List Loc} {cells slots : Nat} (X : Stand p l e R s m args below meth c T locs cells slots) (hexec : p.tables.exec = Jvm.exec) {own C : String} {index : Nat} (hown : s.vm.findClass own = some m.cls) (hlink : (Cond.classLink own index C).before args s = true) {a : Addr} (hE : Exact C a T)
    {g : JFrame} (hg : g.method = m) {rest : List Value} (hstack : g.stack = .ref a :: rest) (hdg : decode c.code g.pc = .ok (.instanceof index, 3)) :
    ∃ T', Stand p l e R s m args below meth c T' locs cells slots ∧ T'.heap = T.heap ∧ ∀ target, Steps p.tables e below (T'.setTop { g with pc := g.pc + 3, stack := .int 1 :: rest }) target → Steps p.tables e below (T.setTop g) target := by
  obtain ⟨cB, h1, D, h2, h3, h4⟩ := hE
  have h1' : s.vm.findClass C = some cB := by rw [← X.warmed.alike.findClass]; exact h1
  obtain ⟨vm', X', st⟩ := X.instanceofYes hexec hown hlink h2 h4 h1' (by rw [h3]; exact Jvm.Free.SB.assignable_self _ _) hg hstack hdg
  exact ⟨_, X', rfl, st⟩
theorem cself {p : Program} {l : Launch} {e : Env} {R : Room} {s : State} {m : MethodId} {args : Array Value} {below : List Frame} {meth : Method} {c : Code} {T : State} {locs : List Loc} {cells slots : Nat} (X : Stand p l e R s m args below meth c T locs cells slots) (hexec : p.tables.exec = Jvm.exec) {own C : String} {index : Nat} (hown : s.vm.findClass own = some m.cls) (hlink : (Cond.classLink own index C).before args s = true) {a : Addr} (hE : Exact C a T)
    {g : JFrame} (hg : g.method = m) {rest : List Value} (hstack : g.stack = .ref a :: rest) (hdg : decode c.code g.pc = .ok (.checkcast index, 3)) :
    ∃ T', Stand p l e R s m args below meth c T' locs cells slots ∧ T'.heap = T.heap ∧ ∀ target, Steps p.tables e below (T'.setTop { g with pc := g.pc + 3, stack := .ref a :: rest }) target → Steps p.tables e below (T.setTop g) target := by
  obtain ⟨cB, h1, D, h2, h3, h4⟩ := hE
  have h1' : s.vm.findClass C = some cB := by rw [← X.warmed.alike.findClass]; exact h1
  obtain ⟨vm', X', st⟩ := X.checkcastYes hexec hown hlink h2 h4 h1' (by rw [h3]; exact Jvm.Free.SB.assignable_self _ _) hg hstack hdg
  exact ⟨_, X', rfl, fun t h => st t (by rw [← hstack] at h; exact h)⟩
namespace SEq
def yN : MethodName := ⟨"java/lang/String", "equals", "(Ljava/lang/Object;)Z"⟩
abbrev yB : ByteArray := jdk_42_method_66_code
theorem d0 : decode yB 0 = .ok (.aload_n 0, 1) := by decide +kernel
theorem d1 : decode yB 1 = .ok (.aload_n 1, 1) := by decide +kernel
theorem d2 : decode yB 2 = .ok (.if_acmp (.ne) 5, 3) := by decide +kernel
theorem d5 : decode yB 5 = .ok (.iconst 1, 1) := by decide +kernel
theorem d6 : decode yB 6 = .ok (.ireturn, 1) := by decide +kernel
theorem d7 : decode yB 7 = .ok (.aload_n 1, 1) := by decide +kernel
theorem d8 : decode yB 8 = .ok (.instanceof 10, 3) := by decide +kernel
theorem d11 : decode yB 11 = .ok (.ifCond (.eq) 43, 3) := by decide +kernel
theorem d14 : decode yB 14 = .ok (.aload_n 1, 1) := by decide +kernel
theorem d15 : decode yB 15 = .ok (.checkcast 10, 3) := by decide +kernel
theorem d18 : decode yB 18 = .ok (.astore_n 2, 1) := by decide +kernel
theorem d19 : decode yB 19 = .ok (.getstatic 38, 3) := by decide +kernel
theorem d22 : decode yB 22 = .ok (.ifCond (.eq) 14, 3) := by decide +kernel
theorem d25 : decode yB 25 = .ok (.aload_n 0, 1) := by decide +kernel
theorem d26 : decode yB 26 = .ok (.getfield 15, 3) := by decide +kernel
theorem d29 : decode yB 29 = .ok (.aload_n 2, 1) := by decide +kernel
theorem d30 : decode yB 30 = .ok (.getfield 15, 3) := by decide +kernel
theorem d33 : decode yB 33 = .ok (.if_icmp (.ne) 21, 3) := by decide +kernel
theorem d36 : decode yB 36 = .ok (.aload_n 0, 1) := by decide +kernel
theorem d37 : decode yB 37 = .ok (.getfield 9, 3) := by decide +kernel
theorem d40 : decode yB 40 = .ok (.aload_n 2, 1) := by decide +kernel
theorem d41 : decode yB 41 = .ok (.getfield 9, 3) := by decide +kernel
theorem d44 : decode yB 44 = .ok (.invokestatic 541, 3) := by decide +kernel
theorem d47 : decode yB 47 = .ok (.ifCond (.eq) 7, 3) := by decide +kernel
theorem d50 : decode yB 50 = .ok (.iconst 1, 1) := by decide +kernel
theorem d51 : decode yB 51 = .ok (.goto 4, 3) := by decide +kernel
theorem d54 : decode yB 54 = .ok (.iconst 0, 1) := by decide +kernel
theorem d55 : decode yB 55 = .ok (.ireturn, 1) := by decide +kernel
def site : List Cond := [.classLink "java/lang/String" 10 "java/lang/String", .fieldLink "java/lang/String" 38 "java/lang/String" "COMPACT_STRINGS" "Z", .fieldLink "java/lang/String" 15 "java/lang/String" "coder" "B", .fieldLink "java/lang/String" 9 "java/lang/String" "value" "[B", LEq.tab] ++ staticW "java/lang/String" 541 LEq.yN
def tab : Cond := tabOf yN yB 3 (some .boolean) site
def P (x t : Addr) (V : Cell) (cd : Int32) (n : Nat) (f : Nat → Int32) (y t' : Addr) (V' : Cell) (cd' : Int32) (k : Nat) (g : Nat → Int32) (z : Int32) (args : Array Value) (s : State) : Prop := args = #[.ref x, .ref y] ∧ Txt x t V cd n f s ∧ Txt y t' V' cd' k g s ∧ StaticIs s "java/lang/String" "COMPACT_STRINGS" "Z" (.int z) ∧ ¬ z = 0
/-- equals(Object) of two Strings: whether the texts are the same -/
theorem law (l : Launch) (x t : Addr) (V : Cell) (cd : Int32) (n : Nat) (f : Nat → Int32) (y t' : Addr) (V' : Cell) (cd' : Int32) (k : Nat) (g : Nat → Int32) (z : Int32) : Law l yN 2 1 1 14 yB 3 (some .boolean) site (P x t V cd n f y t' V' cd' k g z) (Says01 (SameT n f k g)) [] 0 0 := by
  refine Law.of_walk (plainFor_of_name (by decide +kernel)) (by decide +kernel) (by decide +kernel) (by decide) (fun _ _ h => by rw [h.1]; rfl) (fun _ U U' hal hh h => ⟨h.1, h.2.1.mv hal hh, h.2.2.1.mv hal hh, h.2.2.2.1.there hal hh, h.2.2.2.2⟩) (fun r U U' V V' h1 hal h2 h => Says01.mv r U U' V V' h1 hal h2 h) ?_
  intro p e s m args below meth c s₁ X0 hexec hbytes hml hret hlk hnm hown hh0 W hP
  obtain ⟨rfl, hx, hy, s1, hz⟩ := hP
  have c1 : Steps p.tables e below (s₁.setTop (entryFrame m #[.ref x, .ref y] 3)) (s₁.setTop (mkF m 2 #[.val (.ref x), .val (.ref y), .unset] [.ref y, .ref x])) := Steps.trans (entry rfl) (by
    show Steps p.tables e below (s₁.setTop (mkF m 0 #[.val (.ref x), .val (.ref y), .unset] [])) _
    refine XS.aloadN X0.here hexec rfl (hb hbytes d0) rfl rfl ?_
    refine XS.aloadN X0.here hexec rfl (hb hbytes d1) rfl rfl ?_
    exact Steps.refl _)
  by_cases hxy : x = y
  · have c2 : Steps p.tables e below (s₁.setTop (entryFrame m #[.ref x, .ref y] 3)) (s₁.setTop (mkF m 6 #[.val (.ref x), .val (.ref y), .unset] [.int 1])) := c1.trans (by
      refine acmpNo X0.here hexec rfl (hb hbytes d2) rfl rfl rfl (by simp [acmp, hxy]) ?_
      refine iconstV X0.here hexec rfl 1 (hb hbytes d5) (by decide) ?_
      exact Steps.refl _)
    subst hxy
    have ec : cd = cd' := by
      obtain ⟨D, fd, a1, a2, a3⟩ := hx.2.2.1
      obtain ⟨D', fd', b1, b2, b3⟩ := hy.2.2.1
      cases a1.symm.trans b1
      obtain ⟨q1, q2, q3, q4⟩ := a2.1
      obtain ⟨r1, r2, r3, r4⟩ := b2.1
      cases q4.symm.trans r4
      cases a3.symm.trans b3; rfl
    have et : t = t' := by
      obtain ⟨D, fd, a1, a2, a3⟩ := hx.2.1
      obtain ⟨D', fd', b1, b2, b3⟩ := hy.2.1
      cases a1.symm.trans b1
      obtain ⟨q1, q2, q3, q4⟩ := a2.1
      obtain ⟨r1, r2, r3, r4⟩ := b2.1
      cases q4.symm.trans r4
      cases a3.symm.trans b3; rfl
    subst ec et
    have ev : V = V' := by cases hx.2.2.2.1.1.symm.trans hy.2.2.2.1.1; rfl
    subst ev
    have hs : SameT n f k g := (Cod.eqv hx.2.2.2.2.1 hy.2.2.2.2.1 hx.2.2.2.2.2 hy.2.2.2.2.2).mp ⟨rfl, fun _ _ => rfl⟩
    exact ⟨s₁, some (.int 1), _, _, _, X0, rfl, rfl, rfl, (fun h => by cases h), ⟨1, rfl, hh0, Or.inl ⟨rfl, hs⟩⟩, fun fs hl => c2.trans (X0.ireturnOut hexec hret rfl (Or.inr (Or.inl rfl)) (hb hbytes d6) hl)⟩
  · have c2 : Steps p.tables e below (s₁.setTop (entryFrame m #[.ref x, .ref y] 3)) (s₁.setTop (mkF m 8 #[.val (.ref x), .val (.ref y), .unset] [.ref y])) := c1.trans (by
      refine acmpYes X0.here hexec rfl (pc0 := 2) rfl (hb hbytes d2) rfl rfl rfl (by simp [acmp, hxy]) (by decide) rfl ?_
      refine XS.aloadN X0.here hexec rfl (hb hbytes d7) rfl rfl ?_
      exact Steps.refl _)
    obtain ⟨T3, X3, q3, st3⟩ := cinst X0 hexec hown (wk W (.classLink "java/lang/String" 10 "java/lang/String")) (hy.mv X0.warmed.alike hh0).1 (g := (mkF m 8 #[.val (.ref x), .val (.ref y), .unset] [.ref y])) rfl (rest := []) rfl (hb hbytes d8)
    have hh3 := q3.trans hh0
    have c4 : Steps p.tables e below (s₁.setTop (entryFrame m #[.ref x, .ref y] 3)) (T3.setTop (mkF m 15 #[.val (.ref x), .val (.ref y), .unset] [.ref y])) := (c2.trans (st3 _ (Steps.refl _))).trans (by
      refine XS.ifNo X3.here hexec rfl (hb hbytes d11) rfl (i0_eq_f (by decide)) ?_
      refine XS.aloadN X3.here hexec rfl (hb hbytes d14) rfl rfl ?_
      exact Steps.refl _)
    obtain ⟨T5, X5, q5, st5⟩ := cself X3 hexec hown (wk W (.classLink "java/lang/String" 10 "java/lang/String")) (hy.mv X3.warmed.alike hh3).1 (g := (mkF m 15 #[.val (.ref x), .val (.ref y), .unset] [.ref y])) rfl (rest := []) rfl (hb hbytes d15)
    have hh5 := q5.trans hh3
    have c6 : Steps p.tables e below (s₁.setTop (entryFrame m #[.ref x, .ref y] 3)) (T5.setTop (mkF m 19 #[.val (.ref x), .val (.ref y), .val (.ref y)] [])) := (c4.trans (st5 _ (Steps.refl _))).trans (by
      refine XS.astoreN X5.here hexec rfl (hb hbytes d18) rfl rfl rfl ?_
      exact Steps.refl _)
    obtain ⟨T7, X7, q7, st7⟩ := X5.sget hexec hown (wk W (.fieldLink "java/lang/String" 38 "java/lang/String" "COMPACT_STRINGS" "Z")) s1 (fun _ _ h => by rw [hh5]; exact h) (g := (mkF m 19 #[.val (.ref x), .val (.ref y), .val (.ref y)] [])) rfl (hb hbytes d19)
    have hh7 := q7.trans hh5
    have c8 : Steps p.tables e below (s₁.setTop (entryFrame m #[.ref x, .ref y] 3)) (T7.setTop (mkF m 26 #[.val (.ref x), .val (.ref y), .val (.ref y)] [.ref x])) := (c6.trans (st7 _ (Steps.refl _))).trans (by
      refine XS.ifNo X7.here hexec rfl (hb hbytes d22) rfl (i0_eq_f hz) ?_
      refine XS.aloadN X7.here hexec rfl (hb hbytes d25) rfl rfl ?_
      exact Steps.refl _)
    obtain ⟨T9, X9, q9, st9⟩ := X7.hget hexec hown (wk W (.fieldLink "java/lang/String" 15 "java/lang/String" "coder" "B")) (hx.mv X7.warmed.alike hh7).2.2.1 (g := (mkF m 26 #[.val (.ref x), .val (.ref y), .val (.ref y)] [.ref x])) rfl (rest := []) rfl (hb hbytes d26)
    have hh9 := q9.trans hh7
    have c10 : Steps p.tables e below (s₁.setTop (entryFrame m #[.ref x, .ref y] 3)) (T9.setTop (mkF m 30 #[.val (.ref x), .val (.ref y), .val (.ref y)] [.ref y, .int cd])) := (c8.trans (st9 _ (Steps.refl _))).trans (by
      refine XS.aloadN X9.here hexec rfl (hb hbytes d29) rfl rfl ?_
      exact Steps.refl _)
    obtain ⟨T11, X11, q11, st11⟩ := X9.hget hexec hown (wk W (.fieldLink "java/lang/String" 15 "java/lang/String" "coder" "B")) (hy.mv X9.warmed.alike hh9).2.2.1 (g := (mkF m 30 #[.val (.ref x), .val (.ref y), .val (.ref y)] [.ref y, .int cd])) rfl (rest := [.int cd]) rfl (hb hbytes d30)
    have hh11 := q11.trans hh9
    have c12 : Steps p.tables e below (s₁.setTop (entryFrame m #[.ref x, .ref y] 3)) (T11.setTop (mkF m 33 #[.val (.ref x), .val (.ref y), .val (.ref y)] [.int cd', .int cd])) := c10.trans (st11 _ (Steps.refl _))
    by_cases hcd : cd = cd'
    · subst hcd
      have c13 : Steps p.tables e below (s₁.setTop (entryFrame m #[.ref x, .ref y] 3)) (T11.setTop (mkF m 37 #[.val (.ref x), .val (.ref y), .val (.ref y)] [.ref x])) := c12.trans (by
        refine XS.icmpNo X11.here hexec rfl (hb hbytes d33) rfl (ii_ne_f rfl) ?_
        refine XS.aloadN X11.here hexec rfl (hb hbytes d36) rfl rfl ?_
        exact Steps.refl _)
      obtain ⟨T14, X14, q14, st14⟩ := X11.hget hexec hown (wk W (.fieldLink "java/lang/String" 9 "java/lang/String" "value" "[B")) (hx.mv X11.warmed.alike hh11).2.1 (g := (mkF m 37 #[.val (.ref x), .val (.ref y), .val (.ref y)] [.ref x])) rfl (rest := []) rfl (hb hbytes d37)
      have hh14 := q14.trans hh11
      have c15 : Steps p.tables e below (s₁.setTop (entryFrame m #[.ref x, .ref y] 3)) (T14.setTop (mkF m 41 #[.val (.ref x), .val (.ref y), .val (.ref y)] [.ref y, .ref t])) := (c13.trans (st14 _ (Steps.refl _))).trans (by
        refine XS.aloadN X14.here hexec rfl (hb hbytes d40) rfl rfl ?_
        exact Steps.refl _)
      obtain ⟨T16, X16, q16, st16⟩ := X14.hget hexec hown (wk W (.fieldLink "java/lang/String" 9 "java/lang/String" "value" "[B")) (hy.mv X14.warmed.alike hh14).2.1 (g := (mkF m 41 #[.val (.ref x), .val (.ref y), .val (.ref y)] [.ref y, .ref t])) rfl (rest := [.ref t]) rfl (hb hbytes d41)
      have hh16 := q16.trans hh14
      have c17 : Steps p.tables e below (s₁.setTop (entryFrame m #[.ref x, .ref y] 3)) (T16.setTop (mkF m 44 #[.val (.ref x), .val (.ref y), .val (.ref y)] [.ref t', .ref t])) := c15.trans (st16 _ (Steps.refl _))
      obtain ⟨v18, T18, X18, E18, g18⟩ := X16.callS hexec (LEq.law l t V t' V') hown (wks W (staticW "java/lang/String" 541 LEq.yN)) (wk W LEq.tab) (W := 0) (Nat.le_of_ble_eq_true rfl) (Nat.le_of_ble_eq_true rfl) (Nat.le_refl _) (Nat.le_refl _) (g := (mkF m 44 #[.val (.ref x), .val (.ref y), .val (.ref y)] [.ref t', .ref t])) rfl (by rw [hml]; rfl) c17 (argsL := [.ref t, .ref t']) (rest := []) rfl rfl (by show 2 * 0 + 0 ≤ _; decide) (hb hbytes d44) (⟨rfl, hx.2.2.2.1.mv X16.warmed.alike hh16, hx.2.2.2.2.1.ty, hy.2.2.2.1.mv X16.warmed.alike hh16, hy.2.2.2.2.1.ty⟩)
      obtain ⟨v, rfl, q18, hv⟩ := E18
      have iff := Cod.eqv hx.2.2.2.2.1 hy.2.2.2.2.1 hx.2.2.2.2.2 hy.2.2.2.2.2
      rcases hv with ⟨rfl, he⟩ | ⟨rfl, he⟩
      · have c19 : Steps p.tables e below (s₁.setTop (entryFrame m #[.ref x, .ref y] 3)) (T18.setTop (mkF m 55 #[.val (.ref x), .val (.ref y), .val (.ref y)] [.int 1])) := Steps.trans g18 (by
          refine XS.ifNo X18.here hexec rfl (hb hbytes d47) rfl (i0_eq_f (by decide)) ?_
          refine iconstV X18.here hexec rfl 1 (hb hbytes d50) (by decide) ?_
          refine XS.goto X18.here hexec rfl (pc0 := 51) rfl (hb hbytes d51) (by decide) rfl ?_
          exact Steps.refl _)
        exact ⟨T18, some (.int 1), _, _, _, X18, rfl, rfl, rfl, (fun h => by cases h), ⟨1, rfl, q18.trans hh16, Or.inl ⟨rfl, iff.mp he⟩⟩, fun fs hl => c19.trans (X18.ireturnOut hexec hret rfl (Or.inr (Or.inl rfl)) (hb hbytes d55) hl)⟩
      · have c19 : Steps p.tables e below (s₁.setTop (entryFrame m #[.ref x, .ref y] 3)) (T18.setTop (mkF m 55 #[.val (.ref x), .val (.ref y), .val (.ref y)] [.int 0])) := Steps.trans g18 (by
          refine XS.ifYes X18.here hexec rfl (pc0 := 47) rfl (hb hbytes d47) rfl (i0_eq_t rfl) (by decide) rfl ?_
          refine iconstV X18.here hexec rfl 0 (hb hbytes d54) (by decide) ?_
          exact Steps.refl _)
        exact ⟨T18, some (.int 0), _, _, _, X18, rfl, rfl, rfl, (fun h => by cases h), ⟨0, rfl, q18.trans hh16, Or.inr ⟨rfl, fun q => he (iff.mpr q)⟩⟩, fun fs hl => c19.trans (X18.ireturnOut hexec hret rfl (Or.inr (Or.inl rfl)) (hb hbytes d55) hl)⟩
    · have c13 : Steps p.tables e below (s₁.setTop (entryFrame m #[.ref x, .ref y] 3)) (T11.setTop (mkF m 55 #[.val (.ref x), .val (.ref y), .val (.ref y)] [.int 0])) := c12.trans (by
        refine XS.icmpYes X11.here hexec rfl (pc0 := 33) rfl (hb hbytes d33) rfl (ii_ne_t hcd) (by decide) rfl ?_
        refine iconstV X11.here hexec rfl 0 (hb hbytes d54) (by decide) ?_
        exact Steps.refl _)
      exact ⟨T11, some (.int 0), _, _, _, X11, rfl, rfl, rfl, (fun h => by cases h), ⟨0, rfl, hh11, Or.inr ⟨rfl, Cod.dif hx.2.2.2.2.1 hy.2.2.2.2.1 hcd⟩⟩, fun fs hl => c13.trans (X11.ireturnOut hexec hret rfl (Or.inr (Or.inl rfl)) (hb hbytes d55) hl)⟩
theorem pays {l : Launch} {R : Room} {p : Program} {e : Env} {below : List Frame} {s : State} {sargs : Array Value} {len W : Nat} (x t : Addr) (V : Cell) (cd : Int32) (n : Nat) (f : Nat → Int32) (y t' : Addr) (V' : Cell) (cd' : Int32) (k : Nat) (g : Nat → Int32) (z : Int32) (htab : tab.before sargs s = true) (hfr : 2 ≤ R.frames) (hlo : W + 28 ≤ R.locals) :
    Back l R p e below s sargs yN len W (fun A₁ a₁ => A₁.cells + 0 ≤ R.cells ∧ A₁.slots + 0 ≤ R.slots ∧ P x t V cd n f y t' V' cd' k g z a₁ A₁.U) (fun A₁ _ v₁ B₁ => Says01 (SameT n f k g) v₁ A₁.U B₁.U ∧ B₁.locs = A₁.locs ++ [] ∧ B₁.cells = A₁.cells + 0 ∧ B₁.slots = A₁.slots + 0) :=
  (law l x t V cd n f y t' V' cd' k g z).pays htab hfr (by omega)
end SEq
end StrChars
namespace StrChars.Road
open Jvm Sem ClassFile Op Lib Jvm.Stand Jvm.Free Jvm.Free.XT
open Jvm.Lib.Cold (StaticIs)
/-- the words of String.equals(Object) -/
abbrev wordsEq : List Jvm.Cond := [.code SEq.yN SEq.yB 3 (some .boolean), .initialized ST, .classLink ST 10 ST, .fieldLink ST 38 ST "COMPACT_STRINGS" "Z", .fieldLink ST 15 ST "coder" "B", .fieldLink ST 9 ST "value" "[B", .methodLink ST 541 LEq.yN, .static LEq.yN, .code LEq.yN LEq.yB 3 (some .boolean), .initialized "java/lang/StringLatin1"]
theorem tabEq_of {a : Array Value} {s : State} (h : ∀ w ∈ wordsEq, w.before a s = true) : SEq.tab.before a s = true := by
  have hl : LEq.tab.before a s = true := unparts (wk h (.code LEq.yN LEq.yB 3 (some .boolean))) (wks h (.initialized LEq.yN.cls :: LEq.site))
  have q := consq hl h
  exact unparts (wk q (.code SEq.yN SEq.yB 3 (some .boolean))) (wks q (.initialized SEq.yN.cls :: SEq.site))
theorem movedEq {Z s : State} {a0 args : Array Value} (hZ : Z.Warmed39 s.vm) (hw : ∀ d ∈ wordsEq, d.before a0 Z = true) : ∀ d ∈ wordsEq, d.before args s = true := fun d hd => by
  have t : ∀ d ∈ wordsEq, (d.onTables && d.keepsFace) = true := by decide +kernel
  exact RoadKit.mv hZ (hw d hd) (t d hd)
/-- the road's facts of a String, as the laws ask it -/
theorem txt_of {Z U : State} {a0 : Array Value} {kI : Nat} (wi : (Jvm.Cond.instantiable ST kI).before a0 Z = true) (al : Z.vm.Alike U.vm) {x t : Addr} {kb : ClassId} {cs : List Int32} {cd N2 : Int32} {vs : List Value} (E : RoadKit.Exa Z U.heap x ST) (V : RoadKit.Fld Z U.heap x ST "value" "[B" (.ref t)) (C : RoadKit.Fld Z U.heap x ST "coder" "B" (.int cd)) (K : RoadKit.Arv Z U.heap t kb .byte N2 vs (.int 0)) (hc : CodA cs cd N2 vs) (hb : ∀ c ∈ cs, ¬ c < 0 ∧ ¬ (65535 : Int32) < c) (l2 : cs.length ≤ 4000) :
    ∃ A, Txt x t A cd cs.length (fun j => cs.getD j 0) U := by
  obtain ⟨A, K1, K2, K3, K4, K5, K6⟩ := K
  have hcod := hc.cod (by omega) K3 K5
  obtain ⟨D, fV, fC, hB, F1, F2, g1, g2, -, -⟩ := strObj wi al E V C
  exact ⟨A, ⟨_, hB.2.2.1, D, hB.1, rfl, by cases q : D.vm <;> first | rfl | exact absurd q (hB.2.1.2 _)⟩, Has.of hB F1 g1, Has.of hB F2 g2, ⟨K1.1, State.isArrayOf_alike al K1.2.1, K1.2.2, by rcases hcod with ⟨-, q, -⟩ | ⟨-, q, -⟩ <;> omega⟩, hcod, fun j hj => by
    have e : cs.getD j 0 = cs[j] := by simp [List.getD_eq_getElem?_getD, hj]
    show ¬ cs.getD j 0 < 0 ∧ ¬ 65535 < cs.getD j 0
    rw [e]; exact hb _ (List.getElem_mem _)⟩
theorem same_list (cs ds : List Int32) : SameT cs.length (fun j => cs.getD j 0) ds.length (fun j => ds.getD j 0) ↔ cs = ds := by
  constructor
  · rintro ⟨e, q⟩
    refine List.ext_getElem e fun j h1 h2 => ?_
    have := q j h1
    simpa [List.getD_eq_getElem?_getD, h1, h2] using this
  · rintro rfl
    exact ⟨rfl, fun _ _ => rfl⟩
/-- **equals(Object) OF TWO SUCH STRINGS**: 1 just where the chars are the same -/
theorem eqW {p : Program} {l : Launch} {e : Env} {R : Room} {s : State} {args : Array Value} {below : List Frame} {len W : Nat} {Z : State} {a0 : Array Value} {h : Heap} (hZ : Z.Warmed39 s.vm) (hw : ∀ d ∈ wordsEq, d.before a0 Z = true) {kI : Nat} (wi : (Jvm.Cond.instantiable ST kI).before a0 Z = true)
    {x t : Addr} {kb : ClassId} {cs : List Int32} {cd N2 : Int32} {vs : List Value} (E : RoadKit.Exa Z h x ST) (V : RoadKit.Fld Z h x ST "value" "[B" (.ref t)) (C : RoadKit.Fld Z h x ST "coder" "B" (.int cd)) (K : RoadKit.Arv Z h t kb .byte N2 vs (.int 0)) (hc : CodA cs cd N2 vs) (hb : ∀ c ∈ cs, ¬ c < 0 ∧ ¬ (65535 : Int32) < c) (l2 : cs.length ≤ 4000)
    {y t' : Addr} {kb' : ClassId} {ds : List Int32} {cd' N2' : Int32} {vs' : List Value} (E' : RoadKit.Exa Z h y ST) (V' : RoadKit.Fld Z h y ST "value" "[B" (.ref t')) (C' : RoadKit.Fld Z h y ST "coder" "B" (.int cd')) (K' : RoadKit.Arv Z h t' kb' .byte N2' vs' (.int 0)) (hc' : CodA ds cd' N2' vs') (hb' : ∀ c ∈ ds, ¬ c < 0 ∧ ¬ (65535 : Int32) < c) (l2' : ds.length ≤ 4000)
    {z : Int32} (S : RoadKit.Sta Z h ST "COMPACT_STRINGS" "Z" (.int z)) (hz : ¬ z = 0) (hfr : 2 ≤ R.frames) (hlo : W + 28 ≤ R.locals) :
    Back l R p e below s args (⟨"java/lang/String", "equals", "(Ljava/lang/Object;)Z"⟩ : MethodName) len W (fun P a => a = #[.ref x, .ref y] ∧ P.U.heap = h ∧ P.cells + 0 ≤ R.cells ∧ P.slots + 0 ≤ R.slots)
      (fun P _ v B => ∃ L, (((v = some (.int 1) ∧ cs = ds) ∨ (v = some (.int 0) ∧ ¬ cs = ds)) ∧ L = [] ∧ B.U.heap = h) ∧ B.locs = P.locs ++ L ∧ B.cells = P.cells + 0 ∧ B.slots = P.slots + 0) := by
  intro m meth c P g ig mk a X hg hsize hdg hW hn hp'
  obtain ⟨rfl, rfl, r1, r2⟩ := hp'
  have al : Z.vm.Alike P.U.vm := hZ.alike.trans X.warmed.alike
  obtain ⟨A, hx⟩ := txt_of wi al E V C K hc hb l2
  obtain ⟨A', hy⟩ := txt_of wi al E' V' C' K' hc' hb' l2'
  obtain ⟨v, B, X', ⟨⟨w, hv, hh, hq⟩, hl, hk, hs⟩, st⟩ := SEq.pays x t A cd cs.length (fun j => cs.getD j 0) y t' A' cd' ds.length (fun j => ds.getD j 0) z (tabEq_of (movedEq hZ hw)) hfr hlo m meth c P g ig mk _ X hg hsize hdg hW hn ⟨r1, r2, rfl, hx, hy, sta_is al S, hz⟩
  refine ⟨v, B, X', ⟨[], ⟨?_, rfl, hh⟩, hl, hk, hs⟩, st⟩
  rcases hq with ⟨rfl, q⟩ | ⟨rfl, q⟩
  · exact Or.inl ⟨hv, (same_list cs ds).mp q⟩
  · exact Or.inr ⟨hv, fun e => q ((same_list cs ds).mpr e)⟩
end StrChars.Road
namespace StrChars.Road
open Jvm Sem ClassFile Op Lib Jvm.Stand Jvm.Free Jvm.Free.XT
open Jvm.Lib.Cold (StaticIs)
/-- what backV says of its String, as the contracts of this text ask it: cs's low bytes, coder 0 -/
theorem codOf {cs : List Int32} {n : Nat} (hn : cs.length = n) (hb : ∀ c ∈ cs, ¬ 255 < c) : CodA cs 0 (Int32.ofNat n) ((cs.map lo8).map Value.int) := Or.inl ⟨rfl, by rw [hn], by simp [List.map_map, Function.comp_def], hb⟩
end StrChars.Road
end Jvm.Pilot.@@N@@

namespace Jvm.Pilot.@@N@@
open Jvm Jvm.ClassFile Sem Op Lib Jvm.Free Jvm.Stand Jvm.LawKit Jvm.RoadKit Bundle Jvm.Pilot.@@N@@.Jvm.D
theorem own_w0 : (Jvm.Cond.methodLink "com/example/banyan/banyan/language/RoleNamedPinLaw" (16 : Nat) ({ cls := "com/example/banyan/banyan/language/RoleNamedPinLaw", name := "str", desc := "(ICCC)Ljava/lang/String;" } : Jvm.MethodName)) ∈ tables_1 := List.mem_of_getElem? (i := 0) rfl
theorem own_w1 : (Jvm.Cond.static ({ cls := "com/example/banyan/banyan/language/RoleNamedPinLaw", name := "str", desc := "(ICCC)Ljava/lang/String;" } : Jvm.MethodName)) ∈ tables_1 := List.mem_of_getElem? (i := 1) rfl
theorem own_w2 : (Jvm.Cond.initialized "com/example/banyan/banyan/language/RoleNamedPinLaw") ∈ tables_1 := List.mem_of_getElem? (i := 2) rfl
theorem own_w3 : (Jvm.Cond.code ({ cls := "com/example/banyan/banyan/language/RoleNamedPinLaw", name := "str", desc := "(ICCC)Ljava/lang/String;" } : Jvm.MethodName) method_2_code (4 : Nat) (Option.some (Jvm.ClassFile.FieldType.object "java/lang/String"))) ∈ tables_1 := List.mem_of_getElem? (i := 3) rfl
theorem own_w4 : (Jvm.Cond.classLink "com/example/banyan/banyan/language/RoleNamedPinLaw" (7 : Nat) "java/lang/String") ∈ tables_1 := List.mem_of_getElem? (i := 4) rfl
theorem own_w5 : (Jvm.Cond.instantiable "java/lang/String" (4 : Nat)) ∈ tables_1 := List.mem_of_getElem? (i := 5) rfl
theorem own_w6 : (Jvm.Cond.initialized "java/lang/String") ∈ tables_1 := List.mem_of_getElem? (i := 6) rfl
theorem own_w7 : (Jvm.Cond.arrayClass Jvm.ClassFile.FieldType.char) ∈ tables_1 := List.mem_of_getElem? (i := 7) rfl
theorem own_w8 : (Jvm.Cond.methodLink "com/example/banyan/banyan/language/RoleNamedPinLaw" (9 : Nat) ({ cls := "java/lang/String", name := "<init>", desc := "([C)V" } : Jvm.MethodName)) ∈ tables_1 := List.mem_of_getElem? (i := 8) rfl
theorem own_w9 : (Jvm.Cond.instanceMethod ({ cls := "java/lang/String", name := "<init>", desc := "([C)V" } : Jvm.MethodName)) ∈ tables_1 := List.mem_of_getElem? (i := 9) rfl
theorem own_w10 : (Jvm.Cond.code ({ cls := "java/lang/String", name := "<init>", desc := "([C)V" } : Jvm.MethodName) jdk_42_method_3_code (2 : Nat) (Option.none : Option Jvm.ClassFile.FieldType)) ∈ tables_1 := List.mem_of_getElem? (i := 10) rfl
theorem own_w11 : (Jvm.Cond.methodLink "java/lang/String" (27 : Nat) ({ cls := "java/lang/String", name := "<init>", desc := "([CIILjava/lang/Void;)V" } : Jvm.MethodName)) ∈ tables_1 := List.mem_of_getElem? (i := 11) rfl
theorem own_w12 : (Jvm.Cond.instanceMethod ({ cls := "java/lang/String", name := "<init>", desc := "([CIILjava/lang/Void;)V" } : Jvm.MethodName)) ∈ tables_1 := List.mem_of_getElem? (i := 12) rfl
theorem own_w14 : (Jvm.Cond.code ({ cls := "java/lang/String", name := "<init>", desc := "([CIILjava/lang/Void;)V" } : Jvm.MethodName) jdk_42_method_149_code (6 : Nat) (Option.none : Option Jvm.ClassFile.FieldType)) ∈ tables_1 := List.mem_of_getElem? (i := 14) rfl
theorem own_w15 : (Jvm.Cond.methodLink "java/lang/String" (1 : Nat) ({ cls := "java/lang/Object", name := "<init>", desc := "()V" } : Jvm.MethodName)) ∈ tables_1 := List.mem_of_getElem? (i := 15) rfl
theorem own_w16 : (Jvm.Cond.instanceMethod ({ cls := "java/lang/Object", name := "<init>", desc := "()V" } : Jvm.MethodName)) ∈ tables_1 := List.mem_of_getElem? (i := 16) rfl
theorem own_w17 : (Jvm.Cond.code ({ cls := "java/lang/Object", name := "<init>", desc := "()V" } : Jvm.MethodName) object_method_1_code (1 : Nat) (Option.none : Option Jvm.ClassFile.FieldType)) ∈ tables_1 := List.mem_of_getElem? (i := 17) rfl
theorem own_w18 : (Jvm.Cond.stringLink "java/lang/String" (7 : Nat) "") ∈ tables_1 := List.mem_of_getElem? (i := 18) rfl
theorem own_w19 : (Jvm.Cond.arrayClass Jvm.ClassFile.FieldType.byte) ∈ tables_1 := List.mem_of_getElem? (i := 19) rfl
theorem own_w20 : (Jvm.Cond.laysFinal "java/lang/String" "java/lang/String" "value" "[B") ∈ tables_1 := List.mem_of_getElem? (i := 20) rfl
theorem own_w21 : (Jvm.Cond.laysFinal "java/lang/String" "java/lang/String" "coder" "B") ∈ tables_1 := List.mem_of_getElem? (i := 21) rfl
theorem own_w24 : (Jvm.Cond.fieldLink "java/lang/String" (9 : Nat) "java/lang/String" "value" "[B") ∈ tables_1 := List.mem_of_getElem? (i := 24) rfl
theorem own_w25 : (Jvm.Cond.fieldLink "java/lang/String" (15 : Nat) "java/lang/String" "coder" "B") ∈ tables_1 := List.mem_of_getElem? (i := 25) rfl
theorem own_w26 : (Jvm.Cond.methodLink "com/example/banyan/banyan/language/RoleNamedPinLaw" (12 : Nat) ({ cls := "java/lang/String", name := "valueOf", desc := "(C)Ljava/lang/String;" } : Jvm.MethodName)) ∈ tables_1 := List.mem_of_getElem? (i := 26) rfl
theorem own_w27 : (Jvm.Cond.static ({ cls := "java/lang/String", name := "valueOf", desc := "(C)Ljava/lang/String;" } : Jvm.MethodName)) ∈ tables_1 := List.mem_of_getElem? (i := 27) rfl
theorem own_w28 : (Jvm.Cond.code ({ cls := "java/lang/String", name := "valueOf", desc := "(C)Ljava/lang/String;" } : Jvm.MethodName) jdk_42_method_139_code (1 : Nat) (Option.some (Jvm.ClassFile.FieldType.object "java/lang/String"))) ∈ tables_1 := List.mem_of_getElem? (i := 28) rfl
theorem own_w29 : (Jvm.Cond.fieldLink "java/lang/String" (38 : Nat) "java/lang/String" "COMPACT_STRINGS" "Z") ∈ tables_1 := List.mem_of_getElem? (i := 29) rfl
theorem own_w30 : (Jvm.Cond.methodLink "java/lang/String" (1015 : Nat) ({ cls := "java/lang/StringLatin1", name := "canEncode", desc := "(C)Z" } : Jvm.MethodName)) ∈ tables_1 := List.mem_of_getElem? (i := 30) rfl
theorem own_w31 : (Jvm.Cond.static ({ cls := "java/lang/StringLatin1", name := "canEncode", desc := "(C)Z" } : Jvm.MethodName)) ∈ tables_1 := List.mem_of_getElem? (i := 31) rfl
theorem own_w32 : (Jvm.Cond.initialized "java/lang/StringLatin1") ∈ tables_1 := List.mem_of_getElem? (i := 32) rfl
theorem own_w33 : (Jvm.Cond.code ({ cls := "java/lang/StringLatin1", name := "canEncode", desc := "(C)Z" } : Jvm.MethodName) jdk_43_method_3_code (1 : Nat) (Option.some Jvm.ClassFile.FieldType.boolean)) ∈ tables_1 := List.mem_of_getElem? (i := 33) rfl
theorem own_w34 : (Jvm.Cond.classLink "java/lang/String" (10 : Nat) "java/lang/String") ∈ tables_1 := List.mem_of_getElem? (i := 34) rfl
theorem own_w35 : (Jvm.Cond.methodLink "java/lang/String" (1018 : Nat) ({ cls := "java/lang/StringLatin1", name := "toBytes", desc := "(C)[B" } : Jvm.MethodName)) ∈ tables_1 := List.mem_of_getElem? (i := 35) rfl
theorem own_w36 : (Jvm.Cond.static ({ cls := "java/lang/StringLatin1", name := "toBytes", desc := "(C)[B" } : Jvm.MethodName)) ∈ tables_1 := List.mem_of_getElem? (i := 36) rfl
theorem own_w37 : (Jvm.Cond.code ({ cls := "java/lang/StringLatin1", name := "toBytes", desc := "(C)[B" } : Jvm.MethodName) jdk_43_method_46_code (1 : Nat) (Option.some (Jvm.ClassFile.FieldType.array Jvm.ClassFile.FieldType.byte))) ∈ tables_1 := List.mem_of_getElem? (i := 37) rfl
theorem own_w38 : (Jvm.Cond.methodLink "java/lang/String" (209 : Nat) ({ cls := "java/lang/String", name := "<init>", desc := "([BB)V" } : Jvm.MethodName)) ∈ tables_1 := List.mem_of_getElem? (i := 38) rfl
theorem own_w39 : (Jvm.Cond.instanceMethod ({ cls := "java/lang/String", name := "<init>", desc := "([BB)V" } : Jvm.MethodName)) ∈ tables_1 := List.mem_of_getElem? (i := 39) rfl
theorem own_w40 : (Jvm.Cond.code ({ cls := "java/lang/String", name := "<init>", desc := "([BB)V" } : Jvm.MethodName) jdk_42_method_151_code (3 : Nat) (Option.none : Option Jvm.ClassFile.FieldType)) ∈ tables_1 := List.mem_of_getElem? (i := 40) rfl
theorem own_w41 : (Jvm.Cond.methodLink "com/example/banyan/banyan/language/RoleNamedPinLaw" (22 : Nat) ({ cls := "com/example/banyan/banyan/language/Role", name := "named", desc := "(Ljava/lang/String;)Lcom/example/banyan/banyan/language/Role;" } : Jvm.MethodName)) ∈ tables_1 := List.mem_of_getElem? (i := 41) rfl
theorem own_w42 : (Jvm.Cond.static ({ cls := "com/example/banyan/banyan/language/Role", name := "named", desc := "(Ljava/lang/String;)Lcom/example/banyan/banyan/language/Role;" } : Jvm.MethodName)) ∈ tables_1 := List.mem_of_getElem? (i := 42) rfl
theorem own_w43 : (Jvm.Cond.initialized "com/example/banyan/banyan/language/Role") ∈ tables_1 := List.mem_of_getElem? (i := 43) rfl
theorem own_w44 : (Jvm.Cond.code ({ cls := "com/example/banyan/banyan/language/Role", name := "named", desc := "(Ljava/lang/String;)Lcom/example/banyan/banyan/language/Role;" } : Jvm.MethodName) prog_6_method_2_code (1 : Nat) (Option.some (Jvm.ClassFile.FieldType.object "com/example/banyan/banyan/language/Role"))) ∈ tables_1 := List.mem_of_getElem? (i := 44) rfl
theorem own_w45 : (Jvm.Cond.classLink "com/example/banyan/banyan/language/Role" (8 : Nat) "com/example/banyan/banyan/language/Role") ∈ tables_1 := List.mem_of_getElem? (i := 45) rfl
theorem own_w46 : (Jvm.Cond.instantiable "com/example/banyan/banyan/language/Role" (2 : Nat)) ∈ tables_1 := List.mem_of_getElem? (i := 46) rfl
theorem own_w47 : (Jvm.Cond.methodLink "com/example/banyan/banyan/language/Role" (17 : Nat) ({ cls := "java/util/Objects", name := "requireNonNull", desc := "(Ljava/lang/Object;)Ljava/lang/Object;" } : Jvm.MethodName)) ∈ tables_1 := List.mem_of_getElem? (i := 47) rfl
theorem own_w48 : (Jvm.Cond.static ({ cls := "java/util/Objects", name := "requireNonNull", desc := "(Ljava/lang/Object;)Ljava/lang/Object;" } : Jvm.MethodName)) ∈ tables_1 := List.mem_of_getElem? (i := 48) rfl
theorem own_w49 : (Jvm.Cond.initialized "java/util/Objects") ∈ tables_1 := List.mem_of_getElem? (i := 49) rfl
theorem own_w50 : (Jvm.Cond.code ({ cls := "java/util/Objects", name := "requireNonNull", desc := "(Ljava/lang/Object;)Ljava/lang/Object;" } : Jvm.MethodName) jdk_31_method_10_code (1 : Nat) (Option.some (Jvm.ClassFile.FieldType.object "java/lang/Object"))) ∈ tables_1 := List.mem_of_getElem? (i := 50) rfl
theorem own_w51 : (Jvm.Cond.classLink "com/example/banyan/banyan/language/Role" (23 : Nat) "java/lang/String") ∈ tables_1 := List.mem_of_getElem? (i := 51) rfl
theorem own_w52 : (Jvm.Cond.methodLink "com/example/banyan/banyan/language/Role" (25 : Nat) ({ cls := "com/example/banyan/banyan/language/Role", name := "<init>", desc := "(Ljava/lang/String;Z)V" } : Jvm.MethodName)) ∈ tables_1 := List.mem_of_getElem? (i := 52) rfl
theorem own_w53 : (Jvm.Cond.instanceMethod ({ cls := "com/example/banyan/banyan/language/Role", name := "<init>", desc := "(Ljava/lang/String;Z)V" } : Jvm.MethodName)) ∈ tables_1 := List.mem_of_getElem? (i := 53) rfl
theorem own_w54 : (Jvm.Cond.code ({ cls := "com/example/banyan/banyan/language/Role", name := "<init>", desc := "(Ljava/lang/String;Z)V" } : Jvm.MethodName) prog_6_method_1_code (3 : Nat) (Option.none : Option Jvm.ClassFile.FieldType)) ∈ tables_1 := List.mem_of_getElem? (i := 54) rfl
theorem own_w55 : (Jvm.Cond.methodLink "com/example/banyan/banyan/language/Role" (1 : Nat) ({ cls := "java/lang/Object", name := "<init>", desc := "()V" } : Jvm.MethodName)) ∈ tables_1 := List.mem_of_getElem? (i := 55) rfl
theorem own_w56 : (Jvm.Cond.fieldLink "com/example/banyan/banyan/language/Role" (7 : Nat) "com/example/banyan/banyan/language/Role" "name" "Ljava/lang/String;") ∈ tables_1 := List.mem_of_getElem? (i := 56) rfl
theorem own_w57 : (Jvm.Cond.laysFinal "com/example/banyan/banyan/language/Role" "com/example/banyan/banyan/language/Role" "name" "Ljava/lang/String;") ∈ tables_1 := List.mem_of_getElem? (i := 57) rfl
theorem own_w58 : (Jvm.Cond.fieldLink "com/example/banyan/banyan/language/Role" (13 : Nat) "com/example/banyan/banyan/language/Role" "inverse" "Z") ∈ tables_1 := List.mem_of_getElem? (i := 58) rfl
theorem own_w59 : (Jvm.Cond.laysFinal "com/example/banyan/banyan/language/Role" "com/example/banyan/banyan/language/Role" "inverse" "Z") ∈ tables_1 := List.mem_of_getElem? (i := 59) rfl
theorem own_w60 : (Jvm.Cond.methodLink "com/example/banyan/banyan/language/RoleNamedPinLaw" (28 : Nat) ({ cls := "com/example/banyan/banyan/language/Role", name := "name", desc := "()Ljava/lang/String;" } : Jvm.MethodName)) ∈ tables_1 := List.mem_of_getElem? (i := 60) rfl
theorem own_w61 : (Jvm.Cond.declares ({ cls := "com/example/banyan/banyan/language/Role", name := "name", desc := "()Ljava/lang/String;" } : Jvm.MethodName)) ∈ tables_1 := List.mem_of_getElem? (i := 61) rfl
theorem own_w62 : (Jvm.Cond.instanceMethod ({ cls := "com/example/banyan/banyan/language/Role", name := "name", desc := "()Ljava/lang/String;" } : Jvm.MethodName)) ∈ tables_1 := List.mem_of_getElem? (i := 62) rfl
theorem own_w63 : (Jvm.Cond.selects "com/example/banyan/banyan/language/Role" ({ cls := "com/example/banyan/banyan/language/Role", name := "name", desc := "()Ljava/lang/String;" } : Jvm.MethodName) ({ cls := "com/example/banyan/banyan/language/Role", name := "name", desc := "()Ljava/lang/String;" } : Jvm.MethodName)) ∈ tables_1 := List.mem_of_getElem? (i := 63) rfl
theorem own_w64 : (Jvm.Cond.code ({ cls := "com/example/banyan/banyan/language/Role", name := "name", desc := "()Ljava/lang/String;" } : Jvm.MethodName) prog_6_method_3_code (1 : Nat) (Option.some (Jvm.ClassFile.FieldType.object "java/lang/String"))) ∈ tables_1 := List.mem_of_getElem? (i := 64) rfl
theorem own_w65 : (Jvm.Cond.methodLink "com/example/banyan/banyan/language/RoleNamedPinLaw" (32 : Nat) ({ cls := "java/lang/String", name := "equals", desc := "(Ljava/lang/Object;)Z" } : Jvm.MethodName)) ∈ tables_1 := List.mem_of_getElem? (i := 65) rfl
theorem own_w66 : (Jvm.Cond.declares ({ cls := "java/lang/String", name := "equals", desc := "(Ljava/lang/Object;)Z" } : Jvm.MethodName)) ∈ tables_1 := List.mem_of_getElem? (i := 66) rfl
theorem own_w67 : (Jvm.Cond.instanceMethod ({ cls := "java/lang/String", name := "equals", desc := "(Ljava/lang/Object;)Z" } : Jvm.MethodName)) ∈ tables_1 := List.mem_of_getElem? (i := 67) rfl
theorem own_w68 : (Jvm.Cond.selects "java/lang/String" ({ cls := "java/lang/String", name := "equals", desc := "(Ljava/lang/Object;)Z" } : Jvm.MethodName) ({ cls := "java/lang/String", name := "equals", desc := "(Ljava/lang/Object;)Z" } : Jvm.MethodName)) ∈ tables_1 := List.mem_of_getElem? (i := 68) rfl
theorem own_w70 : (Jvm.Cond.methodLink "com/example/banyan/banyan/language/RoleNamedPinLaw" (36 : Nat) ({ cls := "com/example/banyan/banyan/language/Role", name := "isInverse", desc := "()Z" } : Jvm.MethodName)) ∈ tables_1 := List.mem_of_getElem? (i := 70) rfl
theorem own_w71 : (Jvm.Cond.declares ({ cls := "com/example/banyan/banyan/language/Role", name := "isInverse", desc := "()Z" } : Jvm.MethodName)) ∈ tables_1 := List.mem_of_getElem? (i := 71) rfl
theorem own_w72 : (Jvm.Cond.instanceMethod ({ cls := "com/example/banyan/banyan/language/Role", name := "isInverse", desc := "()Z" } : Jvm.MethodName)) ∈ tables_1 := List.mem_of_getElem? (i := 72) rfl
theorem own_w73 : (Jvm.Cond.selects "com/example/banyan/banyan/language/Role" ({ cls := "com/example/banyan/banyan/language/Role", name := "isInverse", desc := "()Z" } : Jvm.MethodName) ({ cls := "com/example/banyan/banyan/language/Role", name := "isInverse", desc := "()Z" } : Jvm.MethodName)) ∈ tables_1 := List.mem_of_getElem? (i := 73) rfl
theorem own_w74 : (Jvm.Cond.code ({ cls := "com/example/banyan/banyan/language/Role", name := "isInverse", desc := "()Z" } : Jvm.MethodName) prog_6_method_4_code (1 : Nat) (Option.some Jvm.ClassFile.FieldType.boolean)) ∈ tables_1 := List.mem_of_getElem? (i := 74) rfl
theorem own_w75 : (Jvm.Cond.methodLink "com/example/banyan/banyan/language/RoleNamedPinLaw" (40 : Nat) ({ cls := "com/example/banyan/banyan/language/Role", name := "equals", desc := "(Ljava/lang/Object;)Z" } : Jvm.MethodName)) ∈ tables_1 := List.mem_of_getElem? (i := 75) rfl
theorem own_w76 : (Jvm.Cond.declares ({ cls := "com/example/banyan/banyan/language/Role", name := "equals", desc := "(Ljava/lang/Object;)Z" } : Jvm.MethodName)) ∈ tables_1 := List.mem_of_getElem? (i := 76) rfl
theorem own_w77 : (Jvm.Cond.instanceMethod ({ cls := "com/example/banyan/banyan/language/Role", name := "equals", desc := "(Ljava/lang/Object;)Z" } : Jvm.MethodName)) ∈ tables_1 := List.mem_of_getElem? (i := 77) rfl
theorem own_w78 : (Jvm.Cond.selects "com/example/banyan/banyan/language/Role" ({ cls := "com/example/banyan/banyan/language/Role", name := "equals", desc := "(Ljava/lang/Object;)Z" } : Jvm.MethodName) ({ cls := "com/example/banyan/banyan/language/Role", name := "equals", desc := "(Ljava/lang/Object;)Z" } : Jvm.MethodName)) ∈ tables_1 := List.mem_of_getElem? (i := 78) rfl
theorem own_w79 : (Jvm.Cond.code ({ cls := "com/example/banyan/banyan/language/Role", name := "equals", desc := "(Ljava/lang/Object;)Z" } : Jvm.MethodName) prog_6_method_6_code (3 : Nat) (Option.some Jvm.ClassFile.FieldType.boolean)) ∈ tables_1 := List.mem_of_getElem? (i := 79) rfl
theorem own_w81 : (Jvm.Cond.methodLink "com/example/banyan/banyan/language/Role" (28 : Nat) ({ cls := "java/lang/String", name := "equals", desc := "(Ljava/lang/Object;)Z" } : Jvm.MethodName)) ∈ tables_1 := List.mem_of_getElem? (i := 81) rfl
theorem own_w85 : (Jvm.Cond.methodLink "com/example/banyan/banyan/language/RoleNamedPinLaw" (41 : Nat) ({ cls := "com/example/banyan/banyan/language/Role", name := "inverse", desc := "()Lcom/example/banyan/banyan/language/Role;" } : Jvm.MethodName)) ∈ tables_1 := List.mem_of_getElem? (i := 85) rfl
theorem own_w86 : (Jvm.Cond.declares ({ cls := "com/example/banyan/banyan/language/Role", name := "inverse", desc := "()Lcom/example/banyan/banyan/language/Role;" } : Jvm.MethodName)) ∈ tables_1 := List.mem_of_getElem? (i := 86) rfl
theorem own_w87 : (Jvm.Cond.instanceMethod ({ cls := "com/example/banyan/banyan/language/Role", name := "inverse", desc := "()Lcom/example/banyan/banyan/language/Role;" } : Jvm.MethodName)) ∈ tables_1 := List.mem_of_getElem? (i := 87) rfl
theorem own_w88 : (Jvm.Cond.selects "com/example/banyan/banyan/language/Role" ({ cls := "com/example/banyan/banyan/language/Role", name := "inverse", desc := "()Lcom/example/banyan/banyan/language/Role;" } : Jvm.MethodName) ({ cls := "com/example/banyan/banyan/language/Role", name := "inverse", desc := "()Lcom/example/banyan/banyan/language/Role;" } : Jvm.MethodName)) ∈ tables_1 := List.mem_of_getElem? (i := 88) rfl
theorem own_w89 : (Jvm.Cond.code ({ cls := "com/example/banyan/banyan/language/Role", name := "inverse", desc := "()Lcom/example/banyan/banyan/language/Role;" } : Jvm.MethodName) prog_6_method_5_code (1 : Nat) (Option.some (Jvm.ClassFile.FieldType.object "com/example/banyan/banyan/language/Role"))) ∈ tables_1 := List.mem_of_getElem? (i := 89) rfl
theorem own_d_jdk_42_method_149_code_0 : decode jdk_42_method_149_code 0 = .ok (.aload_n 0, 1) := by decide +kernel
theorem own_d_jdk_42_method_149_code_1 : decode jdk_42_method_149_code 1 = .ok (.invokespecial 1, 3) := by decide +kernel
theorem own_d_jdk_42_method_149_code_4 : decode jdk_42_method_149_code 4 = .ok (.iload_n 3, 1) := by decide +kernel
theorem own_d_jdk_42_method_149_code_5 : decode jdk_42_method_149_code 5 = .ok (.ifCond .ne 22, 3) := by decide +kernel
theorem own_d_jdk_42_method_149_code_8 : decode jdk_42_method_149_code 8 = .ok (.aload_n 0, 1) := by decide +kernel
theorem own_d_jdk_42_method_149_code_9 : decode jdk_42_method_149_code 9 = .ok (.ldc 7, 2) := by decide +kernel
theorem own_d_jdk_42_method_149_code_11 : decode jdk_42_method_149_code 11 = .ok (.getfield 9, 3) := by decide +kernel
theorem own_d_jdk_42_method_149_code_14 : decode jdk_42_method_149_code 14 = .ok (.putfield 9, 3) := by decide +kernel
theorem own_d_jdk_42_method_149_code_17 : decode jdk_42_method_149_code 17 = .ok (.aload_n 0, 1) := by decide +kernel
theorem own_d_jdk_42_method_149_code_18 : decode jdk_42_method_149_code 18 = .ok (.ldc 7, 2) := by decide +kernel
theorem own_d_jdk_42_method_149_code_20 : decode jdk_42_method_149_code 20 = .ok (.getfield 15, 3) := by decide +kernel
theorem own_d_jdk_42_method_149_code_23 : decode jdk_42_method_149_code 23 = .ok (.putfield 15, 3) := by decide +kernel
theorem own_d_jdk_42_method_149_code_26 : decode jdk_42_method_149_code 26 = .ok (.return_, 1) := by decide +kernel
theorem own_d_jdk_42_method_3_code_0 : decode jdk_42_method_3_code 0 = .ok (.aload_n 0, 1) := by decide +kernel
theorem own_d_jdk_42_method_3_code_1 : decode jdk_42_method_3_code 1 = .ok (.aload_n 1, 1) := by decide +kernel
theorem own_d_jdk_42_method_3_code_2 : decode jdk_42_method_3_code 2 = .ok (.iconst 0, 1) := by decide +kernel
theorem own_d_jdk_42_method_3_code_3 : decode jdk_42_method_3_code 3 = .ok (.aload_n 1, 1) := by decide +kernel
theorem own_d_jdk_42_method_3_code_4 : decode jdk_42_method_3_code 4 = .ok (.arraylength, 1) := by decide +kernel
theorem own_d_jdk_42_method_3_code_5 : decode jdk_42_method_3_code 5 = .ok (.aconst_null, 1) := by decide +kernel
theorem own_d_jdk_42_method_3_code_6 : decode jdk_42_method_3_code 6 = .ok (.invokespecial 27, 3) := by decide +kernel
theorem own_d_jdk_42_method_3_code_9 : decode jdk_42_method_3_code 9 = .ok (.return_, 1) := by decide +kernel
theorem own_d_jdk_43_method_3_code_0 : decode jdk_43_method_3_code 0 = .ok (.iload_n 0, 1) := by decide +kernel
theorem own_d_jdk_43_method_3_code_1 : decode jdk_43_method_3_code 1 = .ok (.sipush 255, 3) := by decide +kernel
theorem own_d_jdk_43_method_3_code_4 : decode jdk_43_method_3_code 4 = .ok (.if_icmp .gt 7, 3) := by decide +kernel
theorem own_d_jdk_43_method_3_code_7 : decode jdk_43_method_3_code 7 = .ok (.iconst 1, 1) := by decide +kernel
theorem own_d_jdk_43_method_3_code_8 : decode jdk_43_method_3_code 8 = .ok (.goto 4, 3) := by decide +kernel
theorem own_d_jdk_43_method_3_code_12 : decode jdk_43_method_3_code 12 = .ok (.ireturn, 1) := by decide +kernel
theorem own_d_jdk_43_method_46_code_0 : decode jdk_43_method_46_code 0 = .ok (.iconst 1, 1) := by decide +kernel
theorem own_d_jdk_43_method_46_code_1 : decode jdk_43_method_46_code 1 = .ok (.newarray .byte, 2) := by decide +kernel
theorem own_d_jdk_43_method_46_code_3 : decode jdk_43_method_46_code 3 = .ok (.dup, 1) := by decide +kernel
theorem own_d_jdk_43_method_46_code_4 : decode jdk_43_method_46_code 4 = .ok (.iconst 0, 1) := by decide +kernel
theorem own_d_jdk_43_method_46_code_5 : decode jdk_43_method_46_code 5 = .ok (.iload_n 0, 1) := by decide +kernel
theorem own_d_jdk_43_method_46_code_6 : decode jdk_43_method_46_code 6 = .ok (.i2b, 1) := by decide +kernel
theorem own_d_jdk_43_method_46_code_7 : decode jdk_43_method_46_code 7 = .ok (.bastore, 1) := by decide +kernel
theorem own_d_jdk_43_method_46_code_8 : decode jdk_43_method_46_code 8 = .ok (.areturn, 1) := by decide +kernel
theorem own_d_jdk_42_method_151_code_0 : decode jdk_42_method_151_code 0 = .ok (.aload_n 0, 1) := by decide +kernel
theorem own_d_jdk_42_method_151_code_1 : decode jdk_42_method_151_code 1 = .ok (.invokespecial 1, 3) := by decide +kernel
theorem own_d_jdk_42_method_151_code_4 : decode jdk_42_method_151_code 4 = .ok (.aload_n 0, 1) := by decide +kernel
theorem own_d_jdk_42_method_151_code_5 : decode jdk_42_method_151_code 5 = .ok (.aload_n 1, 1) := by decide +kernel
theorem own_d_jdk_42_method_151_code_6 : decode jdk_42_method_151_code 6 = .ok (.putfield 9, 3) := by decide +kernel
theorem own_d_jdk_42_method_151_code_9 : decode jdk_42_method_151_code 9 = .ok (.aload_n 0, 1) := by decide +kernel
theorem own_d_jdk_42_method_151_code_10 : decode jdk_42_method_151_code 10 = .ok (.iload_n 2, 1) := by decide +kernel
theorem own_d_jdk_42_method_151_code_11 : decode jdk_42_method_151_code 11 = .ok (.putfield 15, 3) := by decide +kernel
theorem own_d_jdk_42_method_151_code_14 : decode jdk_42_method_151_code 14 = .ok (.return_, 1) := by decide +kernel
theorem own_d_jdk_42_method_139_code_0 : decode jdk_42_method_139_code 0 = .ok (.getstatic 38, 3) := by decide +kernel
theorem own_d_jdk_42_method_139_code_3 : decode jdk_42_method_139_code 3 = .ok (.ifCond .eq 23, 3) := by decide +kernel
theorem own_d_jdk_42_method_139_code_6 : decode jdk_42_method_139_code 6 = .ok (.iload_n 0, 1) := by decide +kernel
theorem own_d_jdk_42_method_139_code_7 : decode jdk_42_method_139_code 7 = .ok (.invokestatic 1015, 3) := by decide +kernel
theorem own_d_jdk_42_method_139_code_10 : decode jdk_42_method_139_code 10 = .ok (.ifCond .eq 16, 3) := by decide +kernel
theorem own_d_jdk_42_method_139_code_13 : decode jdk_42_method_139_code 13 = .ok (.new 10, 3) := by decide +kernel
theorem own_d_jdk_42_method_139_code_16 : decode jdk_42_method_139_code 16 = .ok (.dup, 1) := by decide +kernel
theorem own_d_jdk_42_method_139_code_17 : decode jdk_42_method_139_code 17 = .ok (.iload_n 0, 1) := by decide +kernel
theorem own_d_jdk_42_method_139_code_18 : decode jdk_42_method_139_code 18 = .ok (.invokestatic 1018, 3) := by decide +kernel
theorem own_d_jdk_42_method_139_code_21 : decode jdk_42_method_139_code 21 = .ok (.iconst 0, 1) := by decide +kernel
theorem own_d_jdk_42_method_139_code_22 : decode jdk_42_method_139_code 22 = .ok (.invokespecial 209, 3) := by decide +kernel
theorem own_d_jdk_42_method_139_code_25 : decode jdk_42_method_139_code 25 = .ok (.areturn, 1) := by decide +kernel
theorem own_d_method_2_code_0 : decode method_2_code 0 = .ok (.iload_n 0, 1) := by decide +kernel
theorem own_d_method_2_code_1 : decode method_2_code 1 = .ok (.ifCond .ne 14, 3) := by decide +kernel
theorem own_d_method_2_code_4 : decode method_2_code 4 = .ok (.new 7, 3) := by decide +kernel
theorem own_d_method_2_code_7 : decode method_2_code 7 = .ok (.dup, 1) := by decide +kernel
theorem own_d_method_2_code_8 : decode method_2_code 8 = .ok (.iconst 0, 1) := by decide +kernel
theorem own_d_method_2_code_9 : decode method_2_code 9 = .ok (.newarray .char, 2) := by decide +kernel
theorem own_d_method_2_code_11 : decode method_2_code 11 = .ok (.invokespecial 9, 3) := by decide +kernel
theorem own_d_method_2_code_14 : decode method_2_code 14 = .ok (.areturn, 1) := by decide +kernel
theorem own_d_method_2_code_15 : decode method_2_code 15 = .ok (.iload_n 0, 1) := by decide +kernel
theorem own_d_method_2_code_16 : decode method_2_code 16 = .ok (.iconst 1, 1) := by decide +kernel
theorem own_d_method_2_code_17 : decode method_2_code 17 = .ok (.if_icmp .ne 8, 3) := by decide +kernel
theorem own_d_method_2_code_20 : decode method_2_code 20 = .ok (.iload_n 1, 1) := by decide +kernel
theorem own_d_method_2_code_21 : decode method_2_code 21 = .ok (.invokestatic 12, 3) := by decide +kernel
theorem own_d_method_2_code_24 : decode method_2_code 24 = .ok (.areturn, 1) := by decide +kernel
theorem own_d_method_2_code_25 : decode method_2_code 25 = .ok (.iload_n 0, 1) := by decide +kernel
theorem own_d_method_2_code_26 : decode method_2_code 26 = .ok (.iconst 2, 1) := by decide +kernel
theorem own_d_method_2_code_27 : decode method_2_code 27 = .ok (.if_icmp .ne 22, 3) := by decide +kernel
theorem own_d_method_2_code_30 : decode method_2_code 30 = .ok (.new 7, 3) := by decide +kernel
theorem own_d_method_2_code_33 : decode method_2_code 33 = .ok (.dup, 1) := by decide +kernel
theorem own_d_method_2_code_34 : decode method_2_code 34 = .ok (.iconst 2, 1) := by decide +kernel
theorem own_d_method_2_code_35 : decode method_2_code 35 = .ok (.newarray .char, 2) := by decide +kernel
theorem own_d_method_2_code_37 : decode method_2_code 37 = .ok (.dup, 1) := by decide +kernel
theorem own_d_method_2_code_38 : decode method_2_code 38 = .ok (.iconst 0, 1) := by decide +kernel
theorem own_d_method_2_code_39 : decode method_2_code 39 = .ok (.iload_n 1, 1) := by decide +kernel
theorem own_d_method_2_code_40 : decode method_2_code 40 = .ok (.castore, 1) := by decide +kernel
theorem own_d_method_2_code_41 : decode method_2_code 41 = .ok (.dup, 1) := by decide +kernel
theorem own_d_method_2_code_42 : decode method_2_code 42 = .ok (.iconst 1, 1) := by decide +kernel
theorem own_d_method_2_code_43 : decode method_2_code 43 = .ok (.iload_n 2, 1) := by decide +kernel
theorem own_d_method_2_code_44 : decode method_2_code 44 = .ok (.castore, 1) := by decide +kernel
theorem own_d_method_2_code_45 : decode method_2_code 45 = .ok (.invokespecial 9, 3) := by decide +kernel
theorem own_d_method_2_code_48 : decode method_2_code 48 = .ok (.areturn, 1) := by decide +kernel
theorem own_d_method_2_code_49 : decode method_2_code 49 = .ok (.new 7, 3) := by decide +kernel
theorem own_d_method_2_code_52 : decode method_2_code 52 = .ok (.dup, 1) := by decide +kernel
theorem own_d_method_2_code_53 : decode method_2_code 53 = .ok (.iconst 3, 1) := by decide +kernel
theorem own_d_method_2_code_54 : decode method_2_code 54 = .ok (.newarray .char, 2) := by decide +kernel
theorem own_d_method_2_code_56 : decode method_2_code 56 = .ok (.dup, 1) := by decide +kernel
theorem own_d_method_2_code_57 : decode method_2_code 57 = .ok (.iconst 0, 1) := by decide +kernel
theorem own_d_method_2_code_58 : decode method_2_code 58 = .ok (.iload_n 1, 1) := by decide +kernel
theorem own_d_method_2_code_59 : decode method_2_code 59 = .ok (.castore, 1) := by decide +kernel
theorem own_d_method_2_code_60 : decode method_2_code 60 = .ok (.dup, 1) := by decide +kernel
theorem own_d_method_2_code_61 : decode method_2_code 61 = .ok (.iconst 1, 1) := by decide +kernel
theorem own_d_method_2_code_62 : decode method_2_code 62 = .ok (.iload_n 2, 1) := by decide +kernel
theorem own_d_method_2_code_63 : decode method_2_code 63 = .ok (.castore, 1) := by decide +kernel
theorem own_d_method_2_code_64 : decode method_2_code 64 = .ok (.dup, 1) := by decide +kernel
theorem own_d_method_2_code_65 : decode method_2_code 65 = .ok (.iconst 2, 1) := by decide +kernel
theorem own_d_method_2_code_66 : decode method_2_code 66 = .ok (.iload_n 3, 1) := by decide +kernel
theorem own_d_method_2_code_67 : decode method_2_code 67 = .ok (.castore, 1) := by decide +kernel
theorem own_d_method_2_code_68 : decode method_2_code 68 = .ok (.invokespecial 9, 3) := by decide +kernel
theorem own_d_method_2_code_71 : decode method_2_code 71 = .ok (.areturn, 1) := by decide +kernel
theorem own_d_jdk_31_method_10_code_0 : decode jdk_31_method_10_code 0 = .ok (.aload_n 0, 1) := by decide +kernel
theorem own_d_jdk_31_method_10_code_1 : decode jdk_31_method_10_code 1 = .ok (.ifnonnull 11, 3) := by decide +kernel
theorem own_d_jdk_31_method_10_code_12 : decode jdk_31_method_10_code 12 = .ok (.aload_n 0, 1) := by decide +kernel
theorem own_d_jdk_31_method_10_code_13 : decode jdk_31_method_10_code 13 = .ok (.areturn, 1) := by decide +kernel
theorem own_d_prog_6_method_1_code_0 : decode prog_6_method_1_code 0 = .ok (.aload_n 0, 1) := by decide +kernel
theorem own_d_prog_6_method_1_code_1 : decode prog_6_method_1_code 1 = .ok (.invokespecial 1, 3) := by decide +kernel
theorem own_d_prog_6_method_1_code_4 : decode prog_6_method_1_code 4 = .ok (.aload_n 0, 1) := by decide +kernel
theorem own_d_prog_6_method_1_code_5 : decode prog_6_method_1_code 5 = .ok (.aload_n 1, 1) := by decide +kernel
theorem own_d_prog_6_method_1_code_6 : decode prog_6_method_1_code 6 = .ok (.putfield 7, 3) := by decide +kernel
theorem own_d_prog_6_method_1_code_9 : decode prog_6_method_1_code 9 = .ok (.aload_n 0, 1) := by decide +kernel
theorem own_d_prog_6_method_1_code_10 : decode prog_6_method_1_code 10 = .ok (.iload_n 2, 1) := by decide +kernel
theorem own_d_prog_6_method_1_code_11 : decode prog_6_method_1_code 11 = .ok (.putfield 13, 3) := by decide +kernel
theorem own_d_prog_6_method_1_code_14 : decode prog_6_method_1_code 14 = .ok (.return_, 1) := by decide +kernel
theorem own_d_prog_6_method_2_code_0 : decode prog_6_method_2_code 0 = .ok (.new 8, 3) := by decide +kernel
theorem own_d_prog_6_method_2_code_3 : decode prog_6_method_2_code 3 = .ok (.dup, 1) := by decide +kernel
theorem own_d_prog_6_method_2_code_4 : decode prog_6_method_2_code 4 = .ok (.aload_n 0, 1) := by decide +kernel
theorem own_d_prog_6_method_2_code_5 : decode prog_6_method_2_code 5 = .ok (.invokestatic 17, 3) := by decide +kernel
theorem own_d_prog_6_method_2_code_8 : decode prog_6_method_2_code 8 = .ok (.checkcast 23, 3) := by decide +kernel
theorem own_d_prog_6_method_2_code_11 : decode prog_6_method_2_code 11 = .ok (.iconst 0, 1) := by decide +kernel
theorem own_d_prog_6_method_2_code_12 : decode prog_6_method_2_code 12 = .ok (.invokespecial 25, 3) := by decide +kernel
theorem own_d_prog_6_method_2_code_15 : decode prog_6_method_2_code 15 = .ok (.areturn, 1) := by decide +kernel
theorem own_d_prog_6_method_5_code_0 : decode prog_6_method_5_code 0 = .ok (.new 8, 3) := by decide +kernel
theorem own_d_prog_6_method_5_code_3 : decode prog_6_method_5_code 3 = .ok (.dup, 1) := by decide +kernel
theorem own_d_prog_6_method_5_code_4 : decode prog_6_method_5_code 4 = .ok (.aload_n 0, 1) := by decide +kernel
theorem own_d_prog_6_method_5_code_5 : decode prog_6_method_5_code 5 = .ok (.getfield 7, 3) := by decide +kernel
theorem own_d_prog_6_method_5_code_8 : decode prog_6_method_5_code 8 = .ok (.aload_n 0, 1) := by decide +kernel
theorem own_d_prog_6_method_5_code_9 : decode prog_6_method_5_code 9 = .ok (.getfield 13, 3) := by decide +kernel
theorem own_d_prog_6_method_5_code_12 : decode prog_6_method_5_code 12 = .ok (.ifCond .ne 7, 3) := by decide +kernel
theorem own_d_prog_6_method_5_code_15 : decode prog_6_method_5_code 15 = .ok (.iconst 1, 1) := by decide +kernel
theorem own_d_prog_6_method_5_code_16 : decode prog_6_method_5_code 16 = .ok (.goto 4, 3) := by decide +kernel
theorem own_d_prog_6_method_5_code_20 : decode prog_6_method_5_code 20 = .ok (.invokespecial 25, 3) := by decide +kernel
theorem own_d_prog_6_method_5_code_23 : decode prog_6_method_5_code 23 = .ok (.areturn, 1) := by decide +kernel
theorem own_d_prog_6_method_3_code_0 : decode prog_6_method_3_code 0 = .ok (.aload_n 0, 1) := by decide +kernel
theorem own_d_prog_6_method_3_code_1 : decode prog_6_method_3_code 1 = .ok (.getfield 7, 3) := by decide +kernel
theorem own_d_prog_6_method_3_code_4 : decode prog_6_method_3_code 4 = .ok (.areturn, 1) := by decide +kernel
theorem own_d_prog_6_method_4_code_0 : decode prog_6_method_4_code 0 = .ok (.aload_n 0, 1) := by decide +kernel
theorem own_d_prog_6_method_4_code_1 : decode prog_6_method_4_code 1 = .ok (.getfield 13, 3) := by decide +kernel
theorem own_d_prog_6_method_4_code_4 : decode prog_6_method_4_code 4 = .ok (.ireturn, 1) := by decide +kernel
theorem own_d_prog_6_method_6_code_0 : decode prog_6_method_6_code 0 = .ok (.aload_n 1, 1) := by decide +kernel
theorem own_d_prog_6_method_6_code_1 : decode prog_6_method_6_code 1 = .ok (.instanceof 8, 3) := by decide +kernel
theorem own_d_prog_6_method_6_code_4 : decode prog_6_method_6_code 4 = .ok (.ifCond .ne 5, 3) := by decide +kernel
theorem own_d_prog_6_method_6_code_9 : decode prog_6_method_6_code 9 = .ok (.aload_n 1, 1) := by decide +kernel
theorem own_d_prog_6_method_6_code_10 : decode prog_6_method_6_code 10 = .ok (.checkcast 8, 3) := by decide +kernel
theorem own_d_prog_6_method_6_code_13 : decode prog_6_method_6_code 13 = .ok (.astore_n 2, 1) := by decide +kernel
theorem own_d_prog_6_method_6_code_14 : decode prog_6_method_6_code 14 = .ok (.aload_n 0, 1) := by decide +kernel
theorem own_d_prog_6_method_6_code_15 : decode prog_6_method_6_code 15 = .ok (.getfield 13, 3) := by decide +kernel
theorem own_d_prog_6_method_6_code_18 : decode prog_6_method_6_code 18 = .ok (.aload_n 2, 1) := by decide +kernel
theorem own_d_prog_6_method_6_code_19 : decode prog_6_method_6_code 19 = .ok (.getfield 13, 3) := by decide +kernel
theorem own_d_prog_6_method_6_code_22 : decode prog_6_method_6_code 22 = .ok (.if_icmp .ne 21, 3) := by decide +kernel
theorem own_d_prog_6_method_6_code_25 : decode prog_6_method_6_code 25 = .ok (.aload_n 0, 1) := by decide +kernel
theorem own_d_prog_6_method_6_code_26 : decode prog_6_method_6_code 26 = .ok (.getfield 7, 3) := by decide +kernel
theorem own_d_prog_6_method_6_code_29 : decode prog_6_method_6_code 29 = .ok (.aload_n 2, 1) := by decide +kernel
theorem own_d_prog_6_method_6_code_30 : decode prog_6_method_6_code 30 = .ok (.getfield 7, 3) := by decide +kernel
theorem own_d_prog_6_method_6_code_33 : decode prog_6_method_6_code 33 = .ok (.invokevirtual 28, 3) := by decide +kernel
theorem own_d_prog_6_method_6_code_36 : decode prog_6_method_6_code 36 = .ok (.ifCond .eq 7, 3) := by decide +kernel
theorem own_d_prog_6_method_6_code_39 : decode prog_6_method_6_code 39 = .ok (.iconst 1, 1) := by decide +kernel
theorem own_d_prog_6_method_6_code_40 : decode prog_6_method_6_code 40 = .ok (.goto 4, 3) := by decide +kernel
theorem own_d_prog_6_method_6_code_44 : decode prog_6_method_6_code 44 = .ok (.ireturn, 1) := by decide +kernel
theorem own_d_prog_6_method_6_code_43 : decode prog_6_method_6_code 43 = .ok (.iconst 0, 1) := by decide +kernel
theorem own_pd0 : parseMethodDescriptor "([CIILjava/lang/Void;)V" = some ⟨[(.array .char), .int, .int, (.object "java/lang/Void")], none⟩ := by decide +kernel
theorem own_pd1 : parseMethodDescriptor "(C)Z" = some ⟨[.char], some .boolean⟩ := by decide +kernel
theorem own_pd2 : parseMethodDescriptor "(C)[B" = some ⟨[.char], some (.array .byte)⟩ := by decide +kernel
theorem own_pd3 : parseMethodDescriptor "([BB)V" = some ⟨[(.array .byte), .byte], none⟩ := by decide +kernel
theorem own_pd4 : parseMethodDescriptor "([C)V" = some ⟨[(.array .char)], none⟩ := by decide +kernel
theorem own_pd5 : parseMethodDescriptor "(C)Ljava/lang/String;" = some ⟨[.char], some (.object "java/lang/String")⟩ := by decide +kernel
theorem own_pd6 : parseMethodDescriptor "(Ljava/lang/Object;)Ljava/lang/Object;" = some ⟨[(.object "java/lang/Object")], some (.object "java/lang/Object")⟩ := by decide +kernel
theorem own_pd7 : parseMethodDescriptor "(Ljava/lang/String;Z)V" = some ⟨[(.object "java/lang/String"), .boolean], none⟩ := by decide +kernel
theorem own_pd8 : parseMethodDescriptor "(Ljava/lang/Object;)Z" = some ⟨[(.object "java/lang/Object")], some .boolean⟩ := by decide +kernel
theorem own_pd9 : parseMethodDescriptor "(ICCC)Ljava/lang/String;" = some ⟨[.int, .char, .char, .char], some (.object "java/lang/String")⟩ := by decide +kernel
theorem own_pd10 : parseMethodDescriptor "(Ljava/lang/String;)Lcom/example/banyan/banyan/language/Role;" = some ⟨[(.object "java/lang/String")], some (.object "com/example/banyan/banyan/language/Role")⟩ := by decide +kernel
theorem own_pd11 : parseMethodDescriptor "()Ljava/lang/String;" = some ⟨[], some (.object "java/lang/String")⟩ := by decide +kernel
theorem own_pd12 : parseMethodDescriptor "()Z" = some ⟨[], some .boolean⟩ := by decide +kernel
theorem own_pd13 : parseMethodDescriptor "()Lcom/example/banyan/banyan/language/Role;" = some ⟨[], some (.object "com/example/banyan/banyan/language/Role")⟩ := by decide +kernel
theorem own_pn0 : plainName "java/lang/String" = true := by first | (simp [plainName, overriddenIn]; done) | decide +kernel
theorem own_pn1 : plainName "java/lang/StringLatin1" = true := by first | (simp [plainName, overriddenIn]; done) | decide +kernel
theorem own_pn2 : plainName "com/example/banyan/banyan/language/RoleNamedPinLaw" = true := by first | (simp [plainName, overriddenIn]; done) | decide +kernel
theorem own_pn3 : plainName "java/util/Objects" = true := by first | (simp [plainName, overriddenIn]; done) | decide +kernel
theorem own_pn4 : plainName "com/example/banyan/banyan/language/Role" = true := by first | (simp [plainName, overriddenIn]; done) | decide +kernel
section OwnKit
variable {p : Program} {l : Launch} {e : Env} {R : Room} {s : State} {m : MethodId} {args : Array Value} {below : List Frame} {meth : Method} {c : Code} {T : State} {locs : List Loc} {cells slots : Nat} {Z : State} {h h1 h2 : Heap}
def own_Fin (p : Program) (e : Env) (below : List Frame) (S : State) (P : State → Outcome → Prop) : Prop := ∃ U o, Steps p.tables e below S U ∧ U.status = .running ∧ Ended U below o ∧ P U o
theorem own_st {S S' : State} {P : State → Outcome → Prop} (st : ∀ t, Steps p.tables e below S' t → Steps p.tables e below S t) (k : own_Fin p e below S' P) : own_Fin p e below S P := by
  obtain ⟨U, o, q, r⟩ := k; exact ⟨U, o, st _ q, r⟩
theorem own_tr {S S' : State} {P : State → Outcome → Prop} (st : Steps p.tables e below S S') (k : own_Fin p e below S' P) : own_Fin p e below S P := by
  obtain ⟨U, o, q, r⟩ := k; exact ⟨U, o, st.trans q, r⟩
def own_End (s : State) (Q : Option Value → Heap → List Loc → Prop) (k n : Nat) (U : State) (o : Outcome) : Prop := ∃ v L, o = .returned v ∧ Q v U.heap L ∧ FrameEnd s o U L k n
theorem own_ret (X : Stand p l e R s m args below meth c T locs cells slots) (hx : p.tables.exec = Jvm.exec) {pc : Nat} {Ls : Array Slot} {w : Value} {t : FieldType} {i : Instr} {rest : List Value} (hret : meth.sig.returnType = some t) (hlk : meth.locks = false) (hn : narrow t w = w)
    (hi : (i = .ireturn ∧ (t = .int ∨ t = .boolean ∨ t = .byte ∨ t = .char ∨ t = .short) ∧ ∃ z, w = .int z) ∨ (i = .lreturn ∧ t = .long ∧ ∃ z, w = .long z) ∨ (i = .dreturn ∧ t = .double ∧ ∃ z, w = .double z) ∨ (i = .freturn ∧ t = .float ∧ ∃ z, w = .float z) ∨ (i = .areturn ∧ t.isReference = true ∧ w.isRef = true))
    (hd : decode c.code pc = .ok (i, 1)) {Q : Option Value → Heap → List Loc → Prop} {k n : Nat} (hk : cells ≤ k) (hs : slots ≤ n) (hq : Q (some w) T.heap locs) : own_Fin p e below (T.setTop (mkF m pc Ls (w :: rest))) (own_End s Q k n) := by
  obtain ⟨fs, hr, hrun, hended, hW, hsame⟩ := X.leave (v := some w) (fun q => by rw [hret] at q; cases q) hlk
  exact ⟨_, _, retOut X hx hret hn hi hd hr, hrun, hended, _, _, rfl, hq, ⟨_, rfl⟩, hW, hsame.mono hk hs⟩
theorem own_ret0 (X : Stand p l e R s m args below meth c T locs cells slots) (hx : p.tables.exec = Jvm.exec) {pc : Nat} {Ls : Array Slot} (hret : meth.sig.returnType = none) (hlk : meth.locks = false)
    (hd : decode c.code pc = .ok (.return_, 1)) {Q : Option Value → Heap → List Loc → Prop} {k n : Nat} (hk : cells ≤ k) (hs : slots ≤ n) (hq : Q none T.heap locs) : own_Fin p e below (T.setTop (mkF m pc Ls [])) (own_End s Q k n) := by
  obtain ⟨fs, hr, hrun, hended, hW, hsame⟩ := X.leave (v := none) (fun _ => rfl) hlk
  exact ⟨_, _, X.returnOut hx hret hd hr, hrun, hended, _, _, rfl, hq, ⟨_, rfl⟩, hW, hsame.mono hk hs⟩
def own_EndW (s : State) (Q : Option Value → Heap → Vm → List Loc → Prop) (k n : Nat) (U : State) (o : Outcome) : Prop := ∃ v L, o = .returned v ∧ Q v U.heap U.vm L ∧ ReturnedEndW s o U L k n
theorem own_xr (h : Heap) : Ext h h := ⟨Nat.le_refl _, fun _ _ q => q⟩
theorem own_xt (E : Ext h h1) (F : Ext h1 h2) : Ext h h2 := ⟨Nat.le_trans E.1 F.1, fun a c q => F.2 a c (E.2 a c q)⟩
theorem own_xw {a : Addr} {sl : Nat} {v : Value} (E : Ext h h1) (W : Wr h1 h2 a sl v) (q : h.size ≤ a) : Ext h h2 :=
  ⟨Nat.le_trans E.1 (Nat.le_of_eq W.size.symm), fun b c hb => by
    obtain ⟨c', e1, -, -, -, e5, -⟩ := wr_at W (E.2 b c hb)
    have ne : b ≠ a := Nat.ne_of_lt (Nat.lt_of_lt_of_le (Array.getElem?_eq_some_iff.mp hb).1 q)
    rw [← e5 ne]; exact e1⟩
theorem own_xk {ws : List Addr} (E : Ext h h1) (K : Keep h1 h2 ws) (q : ∀ x ∈ ws, h.size ≤ x) : Ext h h2 :=
  ⟨Nat.le_trans E.1 K.1, fun b c hb => K.2.1 b c (E.2 b c hb) fun z => absurd (Array.getElem?_eq_some_iff.mp hb).1 (Nat.not_lt.mpr (q b z))⟩
theorem own_kx (E : Ext h h1) (ws : List Addr) : Keep h h1 ws := ⟨E.1, fun a c q _ => E.2 a c q, fun a c q => ⟨c, E.2 a c q, rfl, rfl, rfl⟩⟩
theorem own_slot {v w : Value} (q : v = w) : Slot.val v = Slot.val w := by rw [q]
end OwnKit

section OwnKitW
variable {p : Program} {l : Launch} {e : Env} {R : Room} {s : State} {m : MethodId} {args : Array Value} {below : List Frame} {meth : Method} {c : Code} {T : State} {locs : List Loc} {cells slots : Nat} {Z : State} {h h1 h2 : Heap}
theorem own_retNW (X : Stand p l e R s m args below meth c T locs cells slots) (hx : p.tables.exec = Jvm.exec) {pc : Nat} {Ls : Array Slot} {w : Value} {t : FieldType} {i : Instr} {rest : List Value} (hret : meth.sig.returnType = some t) (hlk : meth.locks = false) (hn : narrow t w = w)
    (hi : (i = .ireturn ∧ (t = .int ∨ t = .boolean ∨ t = .byte ∨ t = .char ∨ t = .short) ∧ ∃ z, w = .int z) ∨ (i = .lreturn ∧ t = .long ∧ ∃ z, w = .long z) ∨ (i = .dreturn ∧ t = .double ∧ ∃ z, w = .double z) ∨ (i = .freturn ∧ t = .float ∧ ∃ z, w = .float z) ∨ (i = .areturn ∧ t.isReference = true ∧ w.isRef = true))
    (hd : decode c.code pc = .ok (i, 1)) {Q : Option Value → Heap → Vm → List Loc → Prop} {k n : Nat} (hk : cells ≤ k) (hs : slots ≤ n) (hq : Q (some w) T.heap T.vm locs) : own_Fin p e below (T.setTop (mkF m pc Ls (w :: rest))) (own_EndW s Q k n) := by
  obtain ⟨fs, hr, hrun, hended, hW, hsame⟩ := X.leave (v := some w) (fun q => by rw [hret] at q; cases q) hlk
  exact ⟨_, _, retOut X hx hret hn hi hd hr, hrun, hended, _, _, rfl, hq, ReturnedEndW.of_narrow ⟨_, rfl⟩ hW (hsame.mono hk hs)⟩
theorem own_retW {vm1 : Vm} (X : Stand p l e R (s.setVm vm1) m args below meth c T locs cells slots) (hx : p.tables.exec = Jvm.exec) {n1 : Nat} (hS : s.Since vm1 n1) (hn1 : n1 ≤ T.heap.size) {pc : Nat} {Ls : Array Slot} {w : Value} {t : FieldType} {i : Instr} {rest : List Value} (hret : meth.sig.returnType = some t) (hlk : meth.locks = false) (hn : narrow t w = w)
    (hi : (i = .ireturn ∧ (t = .int ∨ t = .boolean ∨ t = .byte ∨ t = .char ∨ t = .short) ∧ ∃ z, w = .int z) ∨ (i = .lreturn ∧ t = .long ∧ ∃ z, w = .long z) ∨ (i = .dreturn ∧ t = .double ∧ ∃ z, w = .double z) ∨ (i = .freturn ∧ t = .float ∧ ∃ z, w = .float z) ∨ (i = .areturn ∧ t.isReference = true ∧ w.isRef = true))
    (hd : decode c.code pc = .ok (i, 1)) {Q : Option Value → Heap → Vm → List Loc → Prop} {k n : Nat} (hk : cells ≤ k) (hs : slots ≤ n) (hq : Q (some w) T.heap T.vm locs) : own_Fin p e below (T.setTop (mkF m pc Ls (w :: rest))) (own_EndW s Q k n) := by
  obtain ⟨fs, hr, hrun, hended, ⟨v, hv⟩, a, b, c'⟩ := X.leaveW hS hn1 (v := some w) (fun q => by rw [hret] at q; cases q) hlk
  exact ⟨_, _, retOut X hx hret hn hi hd hr, hrun, hended, _, _, rfl, hq, ⟨v, hv⟩, a, b, c'.mono hk hs⟩
theorem own_ret0W {vm1 : Vm} (X : Stand p l e R (s.setVm vm1) m args below meth c T locs cells slots) (hx : p.tables.exec = Jvm.exec) {n1 : Nat} (hS : s.Since vm1 n1) (hn1 : n1 ≤ T.heap.size) {pc : Nat} {Ls : Array Slot} (hret : meth.sig.returnType = none) (hlk : meth.locks = false)
    (hd : decode c.code pc = .ok (.return_, 1)) {Q : Option Value → Heap → Vm → List Loc → Prop} {k n : Nat} (hk : cells ≤ k) (hs : slots ≤ n) (hq : Q none T.heap T.vm locs) : own_Fin p e below (T.setTop (mkF m pc Ls [])) (own_EndW s Q k n) := by
  obtain ⟨fs, hr, hrun, hended, ⟨v, hv⟩, a, b, c'⟩ := X.leaveW hS hn1 (v := none) (fun _ => rfl) hlk
  exact ⟨_, _, X.returnOut hx hret hd hr, hrun, hended, _, _, rfl, hq, ⟨v, hv⟩, a, b, c'.mono hk hs⟩
end OwnKitW

section OwnStr
variable {p : Program} {l : Launch} {e : Env} {R : Room} {s : State} {args : Array Value} {below : List Frame} {len W : Nat} {Z : State} {a0 : Array Value} {h h' : Heap} {x y : Addr} {cs ds : List Int32} {z : Int32}
def own_Str (Z : State) (h : Heap) (x : Addr) (cs : List Int32) : Prop := ∃ (t : Addr) (kb : ClassId) (cd N : Int32) (vs : List Value), Exa Z h x "java/lang/String" ∧ Fld Z h x "java/lang/String" "value" "[B" (.ref t) ∧ Fld Z h x "java/lang/String" "coder" "B" (.int cd) ∧ Arv Z h t kb .byte N vs (.int 0) ∧ StrChars.Road.CodA cs cd N vs ∧ (∀ c ∈ cs, ¬ c < 0 ∧ ¬ (65535 : Int32) < c) ∧ cs.length ≤ 4000
theorem own_Str.ext (F : own_Str Z h x cs) (E : Ext h h') : own_Str Z h' x cs := by
  obtain ⟨t, kb, cd, N, vs, q1, q2, q3, q4, r⟩ := F; exact ⟨t, kb, cd, N, vs, q1.ext E, q2.ext E, q3.ext E, q4.ext E, r⟩
theorem own_Str.exa (F : own_Str Z h x cs) : Exa Z h x "java/lang/String" := by obtain ⟨t, kb, cd, N, vs, q1, -⟩ := F; exact q1
theorem own_Str.lt (F : own_Str Z h x cs) : x < h.size := F.exa.lt


theorem own_newB (hZ : Z.Warmed39 s.vm) (hw : ∀ d ∈ tables_1, d.before a0 Z = true) {b : Addr} {kC : ClassId} {d v0 c0 : Value} {N : Int32} {n n0 : Nat} (hx0 : n0 ≤ x) (hh0 : n0 ≤ h.size) (E : Exa Z h x "java/lang/String") (V : Fld Z h x "java/lang/String" "value" "[B" v0) (C : Fld Z h x "java/lang/String" "coder" "B" c0) (K : Arv Z h b kC .char N (cs.map Value.int) d) (S : Sta Z h "java/lang/String" "COMPACT_STRINGS" "Z" (.int z)) (hz : ¬ z = 0)
    (hn : cs.length = n) (hN : N = Int32.ofNat n) (l0 : 0 < n) (l2 : n ≤ 4000) (hp : ∀ c ∈ cs, ¬ c < 0 ∧ ¬ (255 : Int32) < c) (hfr : 4 ≤ R.frames) (hlo : W + 65 ≤ R.locals) :
    Back l R p e below s args (⟨"java/lang/String", "<init>", "([C)V"⟩ : MethodName) len W (fun P a => a = #[.ref x, .ref b] ∧ P.U.heap = h ∧ P.cells + 1 ≤ R.cells ∧ P.slots + n ≤ R.slots)
      (fun P _ v B => ∃ L, (v = none ∧ Fr n0 L ∧ Keep h B.U.heap [x] ∧ own_Str Z B.U.heap x cs) ∧ B.locs = P.locs ++ L ∧ B.cells = P.cells + 1 ∧ B.slots = P.slots + n) := by
  intro m meth c A g ig mk a X hg hsize hdg hW hnm hpre
  obtain ⟨v, B, X', ⟨L, ⟨q1, q2, q3, q4, q5, t, kb, q6, q7, q8, q9, q10⟩, r⟩, hst⟩ := StrChars.Road.backV hZ (fun d hd => hw d ((by decide +kernel : ∀ d ∈ StrChars.Road.words, d ∈ tables_1) d hd)) (hw _ own_w5) hx0 hh0 E V C K S hz hn hN l0 l2 hp rfl hfr hlo m meth c A g ig mk a X hg hsize hdg hW hnm hpre
  subst hN
  exact ⟨v, B, X', ⟨L, ⟨q1, q2, q3, t, kb, 0, _, _, q4, q9, q5, q10, StrChars.Road.codOf hn (fun c hc => (hp c hc).2), fun c hc => ⟨(hp c hc).1, fun q => (hp c hc).2 (Int32.lt_trans (by decide) q)⟩, by omega⟩, r⟩, hst⟩


theorem own_eqB (hZ : Z.Warmed39 s.vm) (hw : ∀ d ∈ tables_1, d.before a0 Z = true) (A : own_Str Z h x cs) (B : own_Str Z h y ds) (S : Sta Z h "java/lang/String" "COMPACT_STRINGS" "Z" (.int z)) (hz : ¬ z = 0) (hfr : 2 ≤ R.frames) (hlo : W + 28 ≤ R.locals) :
    Back l R p e below s args (⟨"java/lang/String", "equals", "(Ljava/lang/Object;)Z"⟩ : MethodName) len W (fun P a => a = #[.ref x, .ref y] ∧ P.U.heap = h ∧ P.cells + 0 ≤ R.cells ∧ P.slots + 0 ≤ R.slots)
      (fun P _ v B => ∃ L, (((v = some (.int 1) ∧ cs = ds) ∨ (v = some (.int 0) ∧ ¬ cs = ds)) ∧ L = [] ∧ B.U.heap = h) ∧ B.locs = P.locs ++ L ∧ B.cells = P.cells + 0 ∧ B.slots = P.slots + 0) := by
  obtain ⟨t, kb, cd, N, vs, q1, q2, q3, q4, q5, q6, q7⟩ := A
  obtain ⟨t', kb', cd', N', vs', r1, r2, r3, r4, r5, r6, r7⟩ := B
  exact StrChars.Road.eqW hZ (fun d hd => hw d ((by decide +kernel : ∀ d ∈ StrChars.Road.wordsEq, d ∈ tables_1) d hd)) (hw _ own_w5) q1 q2 q3 q4 q5 q6 q7 r1 r2 r3 r4 r5 r6 r7 S hz hfr hlo

end OwnStr
theorem own_pickY {v : Option Value} {P : Prop} (h : (v = some (.int 1) ∧ P) ∨ (v = some (.int 0) ∧ ¬ P)) (q : P) : v = some (.int 1) ∧ True := ⟨h.elim (fun r => r.1) fun r => absurd q r.2, trivial⟩
theorem own_pickN {v : Option Value} {P : Prop} (h : (v = some (.int 1) ∧ P) ∨ (v = some (.int 0) ∧ ¬ P)) (q : ¬ P) : v = some (.int 0) ∧ True := ⟨h.elim (fun r => absurd r.2 q) fun r => r.1, trivial⟩

section OwnLS
variable {p : Program} {l : Launch} {e : Env} {R : Room} {s : State} {args : Array Value} {below : List Frame} {Z : State} {a0 : Array Value} {h h' : Heap} {vm vm' : Vm}
/-- String's constant #7: not loaded since the start, or booked and its text known -/
def own_LS (Z : State) (vm : Vm) (h : Heap) : Prop := IB Z vm [] ∨ ∃ a, Lit (Z.setVm vm) "java/lang/String" 7 a ∧ own_Str Z h a []
theorem own_LS.ext (F : own_LS Z vm h) (E : Ext h h') : own_LS Z vm h' := F.imp id fun ⟨a, q, r⟩ => ⟨a, q, r.ext E⟩
theorem own_LS.warm (F : own_LS Z vm h) (hW : (s.setVm vm).WarmedH vm') : own_LS Z vm' h := by
  rcases F with F | ⟨a, q, r⟩
  · refine Or.inl ?_
    have e := (hW.since 0).same_table (Nat.zero_le _)
    obtain ⟨more, h1, h2⟩ := F
    exact ⟨more, by rw [e]; exact h1, h2⟩
  · exact Or.inr ⟨a, Lit.stays (s := Z) q hW.wide, r⟩
theorem own_Str.nil {x t : Addr} {kb : ClassId} (E : Exa Z h x "java/lang/String") (V : Fld Z h x "java/lang/String" "value" "[B" (.ref t)) (C : Fld Z h x "java/lang/String" "coder" "B" (.int (0 : Int32))) (K : Arv Z h t kb .byte (0 : Int32) [] (.int (0 : Int32))) : own_Str Z h x [] :=
  ⟨t, kb, 0, 0, [], E, V, C, K, Or.inl ⟨rfl, rfl, rfl, (fun _ q => nomatch q)⟩, (fun _ q => nomatch q), by decide⟩
theorem own_cod0 {cd N : Int32} {vs : List Value} (q : StrChars.Road.CodA [] cd N vs) : cd = 0 ∧ N = 0 ∧ vs = [] := by
  rcases q with ⟨h1, h2, h3, -⟩ | ⟨-, -, -, c, hc, -⟩
  · exact ⟨h1, h2, h3⟩
  · cases hc
theorem own_backS {y : MethodName} {bytes : ByteArray} {maxL : Nat} {ret : Option FieldType} {rm : Room} {len W : Nat} {as' : Array Value} {Q : Option Value → Heap → Vm → List Loc → Prop}
    (hM : MetFree l y (head1 [Cond.code y bytes maxL ret] rm) (fun a U => a = as' ∧ Z.Warmed39 U.vm ∧ U.heap = h ∧ own_LS Z U.vm h) (fun _ _ _ _ _ => True) (fun _ U o U' => ∃ v L, o = .returned v ∧ Q v U'.heap U'.vm L ∧ ReturnedEndW U o U' L rm.cells rm.slots))
    (hZ : Z.Warmed39 s.vm) (wc : (Cond.code y bytes maxL ret).before a0 Z = true) (wz : (Cond.initialized y.cls).before a0 Z = true) (hf : rm.frames + 1 ≤ R.frames) (hl : W + (maxL + 11) + rm.locals ≤ R.locals) :
    BackS l R p e below s args y len W (fun A a => a = as' ∧ A.U.heap = h ∧ A.cells + rm.cells ≤ R.cells ∧ A.slots + rm.slots ≤ R.slots ∧ own_LS Z A.U.vm h)
      (fun A _ v B => ∃ L, Q v B.U.heap B.U.vm L ∧ B.locs = A.locs ++ L ∧ B.cells = A.cells + rm.cells ∧ B.slots = A.slots + rm.slots) :=
  BackS.of_freeW (bytes := bytes) (maxL := maxL) (ret := ret) (E := fun _ _ o t L k n => k = rm.cells ∧ n = rm.slots ∧ ∃ v, o = .returned v ∧ Q v t.heap t.vm L) hM hf hl
    (fun m meth c A a Y hp => have hU : Z.Warmed39 A.U.vm := wtrans hZ Y.warmed
      ⟨by show (Cond.and _ .tt).before a A.U = true; rw [Cond.before_and, mv hU wc]; rfl, mv hU wc, mv hU wz, hp.2.2.1, hp.2.2.2.1⟩)
    (fun m meth c A a g mk Y hp => ⟨hp.1, wtrans hZ Y.warmed, hp.2.1, hp.2.2.2.2⟩) (fun _ _ _ _ _ _ _ _ _ => trivial)
    (fun _ _ _ _ ⟨v, L, h1, h2, h3⟩ => ⟨L, _, _, h3, rfl, rfl, v, h1, h2⟩)
    (fun m meth c A a g mk v t L k n Y hp _ _ ⟨e1, e2, v', e3, e4⟩ => by cases e3; subst e1 e2; exact ⟨L, e4, rfl, rfl, rfl⟩)
end OwnLS

def own_txt (n a b c : Int32) : List Int32 := if n = 0 then [] else if n = 1 then [a] else if n = 2 then [a, b] else [a, b, c]
theorem own_t0 {n a b c : Int32} (h : n = 0) : own_txt n a b c = [] := by simp [own_txt, h]
theorem own_t1 {n a b c : Int32} (h0 : ¬ n = 0) (h : n = 1) : own_txt n a b c = [a] := by subst h; rfl
theorem own_t2 {n a b c : Int32} (h0 : ¬ n = 0) (h1 : ¬ n = 1) (h : n = 2) : own_txt n a b c = [a, b] := by subst h; rfl
theorem own_t3 {n a b c : Int32} (h0 : ¬ n = 0) (h1 : ¬ n = 1) (h : ¬ n = 2) : own_txt n a b c = [a, b, c] := by simp [own_txt, h0, h1, h]
theorem own_nar {c : Int32} (h : ¬ c < 0 ∧ ¬ (255 : Int32) < c) : nar .char c = c := by
  have h0 : 0 ≤ c.toInt := by have := h.1; rw [Int32.lt_iff_toInt_lt] at this; have q : (0 : Int32).toInt = 0 := (by decide); omega
  have h1 : c.toInt ≤ 255 := by have := h.2; rw [Int32.lt_iff_toInt_lt] at this; have q : (255 : Int32).toInt = 255 := (by decide); omega
  have r := c_i2c c
  show c.toUInt32.toUInt16.toUInt32.toInt32 = c
  rw [← Int32.toInt_inj]
  omega
theorem own_chr {x y : Int32} (h : ((x &&& (255 : Int32)).toUInt32.toUInt16.toUInt32.toInt32) = y) : ¬ y < 0 ∧ ¬ (255 : Int32) < y := by
  rw [i2c_mask] at h
  have := c_and x 255 (by decide)
  subst h
  refine ⟨?_, ?_⟩ <;> rw [Int32.lt_iff_toInt_lt] <;> (have q : (255 : Int32).toInt = 255 := by decide) <;> (have q0 : (0 : Int32).toInt = 0 := by decide) <;> omega
theorem own_hp2 {c d : Int32} (h : ¬ c < 0 ∧ ¬ (255 : Int32) < c) (g : ¬ d < 0 ∧ ¬ (255 : Int32) < d) : ∀ x ∈ [nar .char c, nar .char d], ¬ x < 0 ∧ ¬ (255 : Int32) < x := by
  intro x hx; simp only [List.mem_cons, List.not_mem_nil, or_false] at hx
  rcases hx with rfl | rfl
  · rw [own_nar h]; exact h
  · rw [own_nar g]; exact g
theorem own_hp3 {c d e : Int32} (h : ¬ c < 0 ∧ ¬ (255 : Int32) < c) (g : ¬ d < 0 ∧ ¬ (255 : Int32) < d) (k : ¬ e < 0 ∧ ¬ (255 : Int32) < e) : ∀ x ∈ [nar .char c, nar .char d, nar .char e], ¬ x < 0 ∧ ¬ (255 : Int32) < x := by
  intro x hx; simp only [List.mem_cons, List.not_mem_nil, or_false] at hx
  rcases hx with rfl | rfl | rfl
  · rw [own_nar h]; exact h
  · rw [own_nar g]; exact g
  · rw [own_nar k]; exact k
def own_Q_ini4 (Z : State) (x0 : Addr) (h0 : Heap) (n0 : Nat) (v : Option Value) (h : Heap) (vm : Vm) (L : List Loc) : Prop := v = none ∧ Fr n0 L ∧ Keep h0 h [x0] ∧ own_Str Z h x0 [] ∧ own_LS Z vm h
theorem own_ef_ini4 (m : MethodId) (x0 : Addr) (b0 : Addr) : entryFrame m #[(.ref x0), (.ref b0), (.int (0 : Int32)), (.int (0 : Int32)), .null] 6 = mkF m 0 #[.val (.ref x0), .val (.ref b0), .val (.int (0 : Int32)), .val (.int (0 : Int32)), .val .null, .unset] [] := by first | (simp [entryFrame, mkF, argsToLocals, Value.category, maxLocals]; done) | rfl
set_option maxRecDepth 65536 in
set_option maxHeartbeats 40000000 in
theorem own_rm_ini4 (l : Launch) (Z : State) (a0 : Array Value) (hw : ∀ d ∈ tables_1, d.before a0 Z = true) (G1 : Int32) (S1 : Sta Z Z.heap "java/lang/String" "COMPACT_STRINGS" "Z" (.int G1)) (P1 : ¬ G1 = 0) (hCH : Jvm.Lit.constHeld Z "java/lang/String" 7) (hCW : Jvm.Lit.compactW.before a0 Z = true) (ws : List Jvm.Cond) (x0 b0 : Addr) (v0 : Value) (h0 : Heap) (n0 : Nat) (Z0 : n0 ≤ h0.size) (XO : Old Z n0 h0) (g0 : n0 ≤ x0) (E1 : Exa Z h0 x0 "java/lang/String") (F1 : Fld Z h0 x0 "java/lang/String" "value" "[B" .null) (F2 : Fld Z h0 x0 "java/lang/String" "coder" "B" v0) :
    MetFree l (⟨"java/lang/String", "<init>", "([CIILjava/lang/Void;)V"⟩ : MethodName) (head1 (Jvm.Cond.code (⟨"java/lang/String", "<init>", "([CIILjava/lang/Void;)V"⟩ : MethodName) jdk_42_method_149_code 6 (none) :: ws) ({ frames := 1, cells := 2, slots := 4, locals := 12 } : Room)) (fun a U => a = #[(.ref x0), (.ref b0), (.int (0 : Int32)), (.int (0 : Int32)), .null] ∧ Z.Warmed39 U.vm ∧ U.heap = h0 ∧ own_LS Z U.vm h0) (fun _ _ _ _ _ => True) (fun _ U o U' => ∃ v L, o = .returned v ∧ (own_Q_ini4 Z x0 h0 n0) v U'.heap U'.vm L ∧ ReturnedEndW U o U' L ({ frames := 1, cells := 2, slots := 4, locals := 12 } : Room).cells ({ frames := 1, cells := 2, slots := 4, locals := 12 } : Room).slots) := by
  refine MetFree.of_bodySF (plainFor_of_name own_pn0) hisR ?_
  intro p e s m args below meth c s₁ Bd hml0 hP hK
  obtain ⟨rfl, hZ, hh, hLS⟩ := hP
  have hx := Bd.exec
  have hby := Bd.bytes
  have hlk : meth.locks = false := BodyLoose.notSynchronized Bd
  have hml : c.maxLocals = 6 := hml0
  have hown : s.vm.findClass "java/lang/String" = some m.cls := findClass_of_methodNamed Bd.named
  have hnm := (name_of_methodNamed Bd.named Bd.method).1
  have X0 : Stand p l e ({ frames := 1, cells := 2, slots := 4, locals := 12 } : Room) (s.setVm s.vm) m #[(.ref x0), (.ref b0), (.int (0 : Int32)), (.int (0 : Int32)), .null] below meth c s₁ [] 0 0 := Stand.of_body Bd
  have hZ : Z.Warmed39 (s.setVm s.vm).vm := hZ
  have hown : (s.setVm s.vm).vm.findClass "java/lang/String" = some m.cls := hown
  have sn0 : s.Since s.vm 0 := (State.WarmedH.refl s).since 0
  have e0 : s₁.heap = h0 := by rw [← hh, Bd.state]; rfl
  have N0 := Fr.nil n0
  show own_Fin p e below (s₁.setTop (entryFrame m #[(.ref x0), (.ref b0), (.int (0 : Int32)), (.int (0 : Int32)), .null] 6)) (own_EndW s ((own_Q_ini4 Z x0 h0 n0)) ({ frames := 1, cells := 2, slots := 4, locals := 12 } : Room).cells ({ frames := 1, cells := 2, slots := 4, locals := 12 } : Room).slots)
  refine own_st (S' := s₁.setTop (mkF m 0 #[.val (.ref x0), .val (.ref b0), .val (.int (0 : Int32)), .val (.int (0 : Int32)), .val .null, .unset] [])) (fun _ k => castTop (own_ef_ini4 m x0 b0) k) ?_
  refine own_st (S' := s₁.setTop (mkF m 1 #[.val (.ref x0), .val (.ref b0), .val (.int (0 : Int32)), .val (.int (0 : Int32)), .val .null, .unset] [(.ref x0)])) (fun _ k => XS.aloadN X0.here hx rfl (hb hby own_d_jdk_42_method_149_code_0) rfl rfl k) ?_
  obtain ⟨T101, X101, e101, st101⟩ := initO X0 hx hZ hown (hw _ own_w15) (hw _ own_w16) (hw _ own_w17) e0 (g := (mkF m 1 #[.val (.ref x0), .val (.ref b0), .val (.int (0 : Int32)), .val (.int (0 : Int32)), .val .null, .unset] [(.ref x0)])) rfl (by rw [hml]; rfl) rfl (hb hby own_d_jdk_42_method_149_code_1) (by decide) (W := 0) (by show 2 * 0 + _ ≤ _; exact Nat.le_of_eq rfl) (by decide)
  refine own_st (S' := T101.setTop (mkF m 4 #[.val (.ref x0), .val (.ref b0), .val (.int (0 : Int32)), .val (.int (0 : Int32)), .val .null, .unset] [])) st101 ?_
  refine own_st (S' := T101.setTop (mkF m 9 #[.val (.ref x0), .val (.ref b0), .val (.int (0 : Int32)), .val (.int (0 : Int32)), .val .null, .unset] [(.ref x0)])) (fun _ k => XS.iloadN X101.here hx rfl (hb hby own_d_jdk_42_method_149_code_4) rfl (XS.ifNo X101.here hx rfl (hb hby own_d_jdk_42_method_149_code_5) rfl (by decide) (XS.aloadN X101.here hx rfl (hb hby own_d_jdk_42_method_149_code_8) rfl rfl k))) ?_
  rcases hLS with hI102 | ⟨u102, hL102, hY102⟩
  · obtain ⟨u102, T102, h102, k102, v102, kb102, X102, e102, E102, sn102, sk102, hz102, ho102, Ex102, Fc102, Fv102, V102, -, -, IB102, L102, st102⟩ := ldcSVL (s := s) (vm0 := s.vm) X101 hx hZ hown (hw _ own_w18) (fun d hd => hw d ((by decide +kernel : ∀ d ∈ Bundle.stringAtoms, d ∈ tables_1) d hd)) e101 sn0 (Nat.le_trans (Nat.zero_le _) (Nat.le_refl _)) (Fr.nil _) (fun b cl q => hh ▸ XO.2.2 b cl q) hI102 (by simp) hCH hCW (vs := []) (z := 0) ⟨by decide, rfl⟩ (by decide) (by decide) (g := (mkF m 9 #[.val (.ref x0), .val (.ref b0), .val (.int (0 : Int32)), .val (.int (0 : Int32)), .val .null, .unset] [(.ref x0)])) rfl (hb hby own_d_jdk_42_method_149_code_9) (n := 0) (by decide) (by decide) (by decide) (by decide)
    have F103 : Fld Z h102 x0 "java/lang/String" "value" "[B" .null := (F1.ext E102)
    have A104 : Exa Z h102 x0 "java/lang/String" := (E1.ext E102)
    refine own_st (S' := T102.setTop (mkF m 11 #[.val (.ref x0), .val (.ref b0), .val (.int (0 : Int32)), .val (.int (0 : Int32)), .val .null, .unset] [(.ref u102), (.ref x0)])) st102 ?_
    obtain ⟨T105, X105, e105, st105⟩ := getF X102 hx hz102 ho102 (host := "") (Or.inl (hw _ own_w24)) Via.refl e102 Fv102 (g := (mkF m 11 #[.val (.ref x0), .val (.ref b0), .val (.int (0 : Int32)), .val (.int (0 : Int32)), .val .null, .unset] [(.ref u102), (.ref x0)])) rfl rfl (hb hby own_d_jdk_42_method_149_code_11)
    refine own_st (S' := T105.setTop (mkF m 14 #[.val (.ref x0), .val (.ref b0), .val (.int (0 : Int32)), .val (.int (0 : Int32)), .val .null, .unset] [(.ref v102), (.ref x0)])) st105 ?_
    obtain ⟨T106, h106, X106, e106, W106, st106⟩ := putF X105 hx hz102 ho102 (host := "") (Or.inl (hw _ own_w24)) Via.refl e105 F103 A104 (Or.inr ⟨(hw _ own_w20), rfl, hnm⟩) (hw _ own_w5) (ty := (.array .byte)) (by decide) rfl rfl (g := (mkF m 14 #[.val (.ref x0), .val (.ref b0), .val (.int (0 : Int32)), .val (.int (0 : Int32)), .val .null, .unset] [(.ref v102), (.ref x0)])) rfl rfl (hb hby own_d_jdk_42_method_149_code_14)
    have N106 := Fr.snoc X106 N0 g0
    refine own_st (S' := T106.setTop (mkF m 17 #[.val (.ref x0), .val (.ref b0), .val (.int (0 : Int32)), .val (.int (0 : Int32)), .val .null, .unset] [])) st106 ?_
    refine own_st (S' := T106.setTop (mkF m 18 #[.val (.ref x0), .val (.ref b0), .val (.int (0 : Int32)), .val (.int (0 : Int32)), .val .null, .unset] [(.ref x0)])) (fun _ k => XS.aloadN X106.here hx rfl (hb hby own_d_jdk_42_method_149_code_17) rfl rfl k) ?_
    refine own_st (S' := T106.setTop (mkF m 20 #[.val (.ref x0), .val (.ref b0), .val (.int (0 : Int32)), .val (.int (0 : Int32)), .val .null, .unset] [(.ref u102), (.ref x0)])) (ldcAgain (s := s) (vm0 := T102.vm) X106 hx hz102 ho102 (hw _ own_w18) L102 (g := (mkF m 18 #[.val (.ref x0), .val (.ref b0), .val (.int (0 : Int32)), .val (.int (0 : Int32)), .val .null, .unset] [(.ref x0)])) rfl (hb hby own_d_jdk_42_method_149_code_18)) ?_
    have F107 : Fld Z h106 u102 "java/lang/String" "coder" "B" (.int (0 : Int32)) := (Fc102.other W106 (Or.inl (Fld.ne Fv102 F103 (by simp))))
    obtain ⟨T108, X108, e108, st108⟩ := getF X106 hx hz102 ho102 (host := "") (Or.inl (hw _ own_w25)) Via.refl e106 F107 (g := (mkF m 20 #[.val (.ref x0), .val (.ref b0), .val (.int (0 : Int32)), .val (.int (0 : Int32)), .val .null, .unset] [(.ref u102), (.ref x0)])) rfl rfl (hb hby own_d_jdk_42_method_149_code_20)
    refine own_st (S' := T108.setTop (mkF m 23 #[.val (.ref x0), .val (.ref b0), .val (.int (0 : Int32)), .val (.int (0 : Int32)), .val .null, .unset] [(.int (0 : Int32)), (.ref x0)])) st108 ?_
    have F109 : Fld Z h106 x0 "java/lang/String" "coder" "B" v0 := ((F2.ext E102).other W106 (Or.inr (slot_ne (Or.inr (hw _ own_w21)) (Or.inr (hw _ own_w20)) (by decide) (t := .byte) (t' := (.array .byte)) (by decide) (by decide))))
    have A110 : Exa Z h106 x0 "java/lang/String" := (A104.wr W106)
    obtain ⟨T111, h111, X111, e111, W111, st111⟩ := putF X108 hx hz102 ho102 (host := "") (Or.inl (hw _ own_w25)) Via.refl e108 F109 A110 (Or.inr ⟨(hw _ own_w21), rfl, hnm⟩) (hw _ own_w5) (ty := .byte) (by decide) rfl rfl (g := (mkF m 23 #[.val (.ref x0), .val (.ref b0), .val (.int (0 : Int32)), .val (.int (0 : Int32)), .val .null, .unset] [(.int (0 : Int32)), (.ref x0)])) rfl rfl (hb hby own_d_jdk_42_method_149_code_23)
    have N111 := Fr.snoc X111 N106 g0
    refine own_st (S' := T111.setTop (mkF m 26 #[.val (.ref x0), .val (.ref b0), .val (.int (0 : Int32)), .val (.int (0 : Int32)), .val .null, .unset] [])) st111 ?_
    have A112 : Exa Z h111 x0 "java/lang/String" := (A110.wr W111)
    have F113 : Fld Z h111 x0 "java/lang/String" "value" "[B" (.ref v102) := ((F103.same W106).other W111 (Or.inr (slot_ne (Or.inr (hw _ own_w20)) (Or.inr (hw _ own_w21)) (by decide) (t := (.array .byte)) (t' := .byte) (by decide) (by decide))))
    have V114 : Arv Z h111 v102 kb102 .byte (0 : Int32) [] (.int (0 : Int32)) := ((V102.other W106 (Ne.symm (Exa.neArv A104 V102 (hw _ own_w5)))).other W111 (Ne.symm (Exa.neArv A104 V102 (hw _ own_w5))))
    have A115 : Exa Z h111 u102 "java/lang/String" := ((Ex102.wr W106).wr W111)
    have F116 : Fld Z h111 u102 "java/lang/String" "value" "[B" (.ref v102) := ((Fv102.other W106 (Or.inl (Fld.ne Fv102 F103 (by simp)))).other W111 (Or.inl (Fld.ne Fv102 F103 (by simp))))
    have F117 : Fld Z h111 u102 "java/lang/String" "coder" "B" (.int (0 : Int32)) := (F107.other W111 (Or.inl (Fld.ne Fv102 F103 (by simp))))
    refine own_ret0W X111 hx sn102 (by rw [e111]; exact Nat.le_trans sk102 (Nat.le_trans (Nat.le_of_eq W106.size.symm) (Nat.le_of_eq W111.size.symm))) Bd.returns hlk (hb hby own_d_jdk_42_method_149_code_26) (by decide) (by decide) ?_
    rw [e111]
    exact ⟨rfl, N111, ((((Keep.refl _ _).ext E102).wr W106 (Or.inl (List.mem_of_getElem? (i := 0) rfl))).wr W111 (Or.inl (List.mem_of_getElem? (i := 0) rfl))), (own_Str.nil A112 F113 (F109.same W111) V114), Or.inr ⟨u102, Lit.stays (s := Z) L102 X111.warmed.wide, (own_Str.nil A115 F116 F117 V114)⟩⟩
  · obtain ⟨v102, kb102, cd102, nn102, vs102, Ex102, Fv102, Fc102, V102, q102, -, -⟩ := hY102
    obtain ⟨rfl, rfl, rfl⟩ := own_cod0 q102
    refine own_st (S' := T101.setTop (mkF m 11 #[.val (.ref x0), .val (.ref b0), .val (.int (0 : Int32)), .val (.int (0 : Int32)), .val .null, .unset] [(.ref u102), (.ref x0)])) (ldcAgain (s := s) (vm0 := s.vm) X101 hx hZ hown (hw _ own_w18) hL102 (g := (mkF m 9 #[.val (.ref x0), .val (.ref b0), .val (.int (0 : Int32)), .val (.int (0 : Int32)), .val .null, .unset] [(.ref x0)])) rfl (hb hby own_d_jdk_42_method_149_code_9)) ?_
    obtain ⟨T118, X118, e118, st118⟩ := getF X101 hx hZ hown (host := "") (Or.inl (hw _ own_w24)) Via.refl e101 Fv102 (g := (mkF m 11 #[.val (.ref x0), .val (.ref b0), .val (.int (0 : Int32)), .val (.int (0 : Int32)), .val .null, .unset] [(.ref u102), (.ref x0)])) rfl rfl (hb hby own_d_jdk_42_method_149_code_11)
    refine own_st (S' := T118.setTop (mkF m 14 #[.val (.ref x0), .val (.ref b0), .val (.int (0 : Int32)), .val (.int (0 : Int32)), .val .null, .unset] [(.ref v102), (.ref x0)])) st118 ?_
    obtain ⟨T119, h119, X119, e119, W119, st119⟩ := putF X118 hx hZ hown (host := "") (Or.inl (hw _ own_w24)) Via.refl e118 F1 E1 (Or.inr ⟨(hw _ own_w20), rfl, hnm⟩) (hw _ own_w5) (ty := (.array .byte)) (by decide) rfl rfl (g := (mkF m 14 #[.val (.ref x0), .val (.ref b0), .val (.int (0 : Int32)), .val (.int (0 : Int32)), .val .null, .unset] [(.ref v102), (.ref x0)])) rfl rfl (hb hby own_d_jdk_42_method_149_code_14)
    have N119 := Fr.snoc X119 N0 g0
    refine own_st (S' := T119.setTop (mkF m 17 #[.val (.ref x0), .val (.ref b0), .val (.int (0 : Int32)), .val (.int (0 : Int32)), .val .null, .unset] [])) st119 ?_
    refine own_st (S' := T119.setTop (mkF m 18 #[.val (.ref x0), .val (.ref b0), .val (.int (0 : Int32)), .val (.int (0 : Int32)), .val .null, .unset] [(.ref x0)])) (fun _ k => XS.aloadN X119.here hx rfl (hb hby own_d_jdk_42_method_149_code_17) rfl rfl k) ?_
    refine own_st (S' := T119.setTop (mkF m 20 #[.val (.ref x0), .val (.ref b0), .val (.int (0 : Int32)), .val (.int (0 : Int32)), .val .null, .unset] [(.ref u102), (.ref x0)])) (ldcAgain (s := s) (vm0 := s.vm) X119 hx hZ hown (hw _ own_w18) hL102 (g := (mkF m 18 #[.val (.ref x0), .val (.ref b0), .val (.int (0 : Int32)), .val (.int (0 : Int32)), .val .null, .unset] [(.ref x0)])) rfl (hb hby own_d_jdk_42_method_149_code_18)) ?_
    have F120 : Fld Z h119 u102 "java/lang/String" "coder" "B" (.int (0 : Int32)) := (Fc102.other W119 (Or.inl (Fld.ne Fv102 F1 (by simp))))
    obtain ⟨T121, X121, e121, st121⟩ := getF X119 hx hZ hown (host := "") (Or.inl (hw _ own_w25)) Via.refl e119 F120 (g := (mkF m 20 #[.val (.ref x0), .val (.ref b0), .val (.int (0 : Int32)), .val (.int (0 : Int32)), .val .null, .unset] [(.ref u102), (.ref x0)])) rfl rfl (hb hby own_d_jdk_42_method_149_code_20)
    refine own_st (S' := T121.setTop (mkF m 23 #[.val (.ref x0), .val (.ref b0), .val (.int (0 : Int32)), .val (.int (0 : Int32)), .val .null, .unset] [(.int (0 : Int32)), (.ref x0)])) st121 ?_
    have F122 : Fld Z h119 x0 "java/lang/String" "coder" "B" v0 := (F2.other W119 (Or.inr (slot_ne (Or.inr (hw _ own_w21)) (Or.inr (hw _ own_w20)) (by decide) (t := .byte) (t' := (.array .byte)) (by decide) (by decide))))
    have A123 : Exa Z h119 x0 "java/lang/String" := (E1.wr W119)
    obtain ⟨T124, h124, X124, e124, W124, st124⟩ := putF X121 hx hZ hown (host := "") (Or.inl (hw _ own_w25)) Via.refl e121 F122 A123 (Or.inr ⟨(hw _ own_w21), rfl, hnm⟩) (hw _ own_w5) (ty := .byte) (by decide) rfl rfl (g := (mkF m 23 #[.val (.ref x0), .val (.ref b0), .val (.int (0 : Int32)), .val (.int (0 : Int32)), .val .null, .unset] [(.int (0 : Int32)), (.ref x0)])) rfl rfl (hb hby own_d_jdk_42_method_149_code_23)
    have N124 := Fr.snoc X124 N119 g0
    refine own_st (S' := T124.setTop (mkF m 26 #[.val (.ref x0), .val (.ref b0), .val (.int (0 : Int32)), .val (.int (0 : Int32)), .val .null, .unset] [])) st124 ?_
    have A125 : Exa Z h124 x0 "java/lang/String" := (A123.wr W124)
    have F126 : Fld Z h124 x0 "java/lang/String" "value" "[B" (.ref v102) := ((F1.same W119).other W124 (Or.inr (slot_ne (Or.inr (hw _ own_w20)) (Or.inr (hw _ own_w21)) (by decide) (t := (.array .byte)) (t' := .byte) (by decide) (by decide))))
    have V127 : Arv Z h124 v102 kb102 .byte (0 : Int32) [] (.int (0 : Int32)) := ((V102.other W119 (Ne.symm (Exa.neArv E1 V102 (hw _ own_w5)))).other W124 (Ne.symm (Exa.neArv E1 V102 (hw _ own_w5))))
    have A128 : Exa Z h124 u102 "java/lang/String" := ((Ex102.wr W119).wr W124)
    have F129 : Fld Z h124 u102 "java/lang/String" "value" "[B" (.ref v102) := ((Fv102.other W119 (Or.inl (Fld.ne Fv102 F1 (by simp)))).other W124 (Or.inl (Fld.ne Fv102 F1 (by simp))))
    have F130 : Fld Z h124 u102 "java/lang/String" "coder" "B" (.int (0 : Int32)) := (F120.other W124 (Or.inl (Fld.ne Fv102 F1 (by simp))))
    refine own_ret0W X124 hx sn0 (by rw [e124]; exact Nat.le_trans (Nat.zero_le _) (Nat.le_trans (Nat.le_of_eq W119.size.symm) (Nat.le_of_eq W124.size.symm))) Bd.returns hlk (hb hby own_d_jdk_42_method_149_code_26) (by decide) (by decide) ?_
    rw [e124]
    exact ⟨rfl, N124, (((Keep.refl _ _).wr W119 (Or.inl (List.mem_of_getElem? (i := 0) rfl))).wr W124 (Or.inl (List.mem_of_getElem? (i := 0) rfl))), (own_Str.nil A125 F126 (F122.same W124) V127), Or.inr ⟨u102, Lit.stays (s := Z) hL102 X124.warmed.wide, (own_Str.nil A128 F129 F130 V127)⟩⟩
def own_Q_ini1 (Z : State) (x0 : Addr) (h0 : Heap) (n0 : Nat) (v : Option Value) (h : Heap) (vm : Vm) (L : List Loc) : Prop := v = none ∧ Fr n0 L ∧ Keep h0 h [x0] ∧ own_Str Z h x0 [] ∧ own_LS Z vm h
theorem own_ef_ini1 (m : MethodId) (x0 : Addr) (b0 : Addr) : entryFrame m #[(.ref x0), (.ref b0)] 2 = mkF m 0 #[.val (.ref x0), .val (.ref b0)] [] := by first | (simp [entryFrame, mkF, argsToLocals, Value.category, maxLocals]; done) | rfl
set_option maxRecDepth 65536 in
set_option maxHeartbeats 40000000 in
theorem own_rm_ini1 (l : Launch) (Z : State) (a0 : Array Value) (hw : ∀ d ∈ tables_1, d.before a0 Z = true) (G1 : Int32) (S1 : Sta Z Z.heap "java/lang/String" "COMPACT_STRINGS" "Z" (.int G1)) (P1 : ¬ G1 = 0) (hCH : Jvm.Lit.constHeld Z "java/lang/String" 7) (hCW : Jvm.Lit.compactW.before a0 Z = true) (ws : List Jvm.Cond) (x0 b0 : Addr) (v0 : Value) (kc : ClassId) (h0 : Heap) (n0 : Nat) (Z0 : n0 ≤ h0.size) (XO : Old Z n0 h0) (g0 : n0 ≤ x0) (E1 : Exa Z h0 x0 "java/lang/String") (F1 : Fld Z h0 x0 "java/lang/String" "value" "[B" .null) (F2 : Fld Z h0 x0 "java/lang/String" "coder" "B" v0) (V1 : Arv Z h0 b0 kc .char (0 : Int32) [] (.int (0 : Int32))) :
    MetFree l (⟨"java/lang/String", "<init>", "([C)V"⟩ : MethodName) (head1 (Jvm.Cond.code (⟨"java/lang/String", "<init>", "([C)V"⟩ : MethodName) jdk_42_method_3_code 2 (none) :: ws) ({ frames := 2, cells := 2, slots := 4, locals := 29 } : Room)) (fun a U => a = #[(.ref x0), (.ref b0)] ∧ Z.Warmed39 U.vm ∧ U.heap = h0 ∧ own_LS Z U.vm h0) (fun _ _ _ _ _ => True) (fun _ U o U' => ∃ v L, o = .returned v ∧ (own_Q_ini1 Z x0 h0 n0) v U'.heap U'.vm L ∧ ReturnedEndW U o U' L ({ frames := 2, cells := 2, slots := 4, locals := 29 } : Room).cells ({ frames := 2, cells := 2, slots := 4, locals := 29 } : Room).slots) := by
  refine MetFree.of_bodySF (plainFor_of_name own_pn0) hisR ?_
  intro p e s m args below meth c s₁ Bd hml0 hP hK
  obtain ⟨rfl, hZ, hh, hLS⟩ := hP
  have hx := Bd.exec
  have hby := Bd.bytes
  have hlk : meth.locks = false := BodyLoose.notSynchronized Bd
  have hml : c.maxLocals = 2 := hml0
  have hown : s.vm.findClass "java/lang/String" = some m.cls := findClass_of_methodNamed Bd.named
  have hnm := (name_of_methodNamed Bd.named Bd.method).1
  have X0 : Stand p l e ({ frames := 2, cells := 2, slots := 4, locals := 29 } : Room) (s.setVm s.vm) m #[(.ref x0), (.ref b0)] below meth c s₁ [] 0 0 := Stand.of_body Bd
  have hZ : Z.Warmed39 (s.setVm s.vm).vm := hZ
  have hown : (s.setVm s.vm).vm.findClass "java/lang/String" = some m.cls := hown
  have sn0 : s.Since s.vm 0 := (State.WarmedH.refl s).since 0
  have e0 : s₁.heap = h0 := by rw [← hh, Bd.state]; rfl
  have N0 := Fr.nil n0
  show own_Fin p e below (s₁.setTop (entryFrame m #[(.ref x0), (.ref b0)] 2)) (own_EndW s ((own_Q_ini1 Z x0 h0 n0)) ({ frames := 2, cells := 2, slots := 4, locals := 29 } : Room).cells ({ frames := 2, cells := 2, slots := 4, locals := 29 } : Room).slots)
  refine own_st (S' := s₁.setTop (mkF m 0 #[.val (.ref x0), .val (.ref b0)] [])) (fun _ k => castTop (own_ef_ini1 m x0 b0) k) ?_
  refine own_st (S' := s₁.setTop (mkF m 4 #[.val (.ref x0), .val (.ref b0)] [(.ref b0), (.int (0 : Int32)), (.ref b0), (.ref x0)])) (fun _ k => XS.aloadN X0.here hx rfl (hb hby own_d_jdk_42_method_3_code_0) rfl rfl (XS.aloadN X0.here hx rfl (hb hby own_d_jdk_42_method_3_code_1) rfl rfl (XS.iconst X0.here hx rfl (hb hby own_d_jdk_42_method_3_code_2) (XS.aloadN X0.here hx rfl (hb hby own_d_jdk_42_method_3_code_3) rfl rfl k)))) ?_
  obtain ⟨c101, A101, q101, S101, M101, H101, U101⟩ := id V1
  refine own_st (S' := s₁.setTop (mkF m 5 #[.val (.ref x0), .val (.ref b0)] [(.int (0 : Int32)), (.int (0 : Int32)), (.ref b0), (.ref x0)])) (len_of S101 M101 ▸ X0.arraylength hx (by rw [e0]; exact A101.1) (State.isArrayOf_alike hZ.alike A101.2.1) (g := (mkF m 4 #[.val (.ref x0), .val (.ref b0)] [(.ref b0), (.int (0 : Int32)), (.ref b0), (.ref x0)])) rfl rfl (hb hby own_d_jdk_42_method_3_code_4)) ?_
  refine own_st (S' := s₁.setTop (mkF m 6 #[.val (.ref x0), .val (.ref b0)] [.null, (.int (0 : Int32)), (.int (0 : Int32)), (.ref b0), (.ref x0)])) (fun _ k => XS.aconstNull X0.here hx rfl (hb hby own_d_jdk_42_method_3_code_5) k) ?_
  obtain ⟨_, _, ⟨T102, L102, k102, n102⟩, -, X102, sn102, sg102, ⟨Lc102, hQ102, l102, y102, z102⟩, st102⟩ := X0.specialBackS hx (y := (⟨"java/lang/String", "<init>", "([CIILjava/lang/Void;)V"⟩ : MethodName)) rfl hown (mvT hZ (hw _ own_w11)) (mvT hZ (hw _ own_w12)) (mvT hZ (hw _ own_w14)) (by decide) (own_backS (W := 0) (own_rm_ini4 l Z a0 hw G1 S1 P1 hCH hCW [] x0 b0 v0 h0 n0 (Nat.le_trans Z0 (Nat.le_refl _)) XO g0 E1 F1 F2) hZ (hw _ own_w14) (hw _ own_w6) (by decide) (by decide)) (g := (mkF m 6 #[.val (.ref x0), .val (.ref b0)] [.null, (.int (0 : Int32)), (.int (0 : Int32)), (.ref b0), (.ref x0)])) rfl (by rw [hml]; rfl) (Steps.refl _) (a := x0) (argsL := [(.ref b0), (.int (0 : Int32)), (.int (0 : Int32)), .null]) (rest := []) (lenOf own_pd0 rfl) rfl (by show 2 * 0 + _ ≤ _; exact Nat.le_of_eq rfl) (hb hby own_d_jdk_42_method_3_code_6) (fun _ hv => ⟨rfl, e0, (by decide : 0 + 2 ≤ _), (by decide : 0 + 4 ≤ _), hLS.warm hv⟩)
  dsimp only [Pt.U, Pt.locs, Pt.cells, Pt.slots] at X102 l102 y102 z102 st102 hQ102 sn102 sg102
  subst l102 y102 z102
  obtain ⟨XX102, ss102, hz102, ho102⟩ := rebS sn0 (n1 := s₁.heap.size) (by rw [e0]; exact Nat.le_trans (Nat.zero_le _) (Nat.le_refl _)) X102 sn102 sg102 hZ hown
  obtain ⟨rfl, M102, K102, Y102, LS102⟩ := hQ102
  have N102 := Fr.app N0 M102
  obtain ⟨h102, e102⟩ : ∃ z, T102.heap = z := ⟨_, rfl⟩
  rw [e102] at K102 LS102 ss102 Y102
  refine own_tr (S' := T102.setTop (mkF m 9 #[.val (.ref x0), .val (.ref b0)] [])) st102 ?_
  refine own_ret0W XX102 hx ss102 (by rw [e102]; exact Nat.le_trans (Nat.le_refl _) (Nat.le_refl _)) Bd.returns hlk (hb hby own_d_jdk_42_method_3_code_9) (by decide) (by decide) ?_
  rw [e102]
  exact ⟨rfl, N102, K102, Y102, (LS102.warm XX102.warmed)⟩

theorem own_nb (c : Int32) : nar .byte c.toInt8.toInt32 = c.toInt8.toInt32 := by simp [nar]
theorem own_Str.one {Z : State} {h : Heap} {x t : Addr} {kb : ClassId} {c : Int32} (E : Exa Z h x "java/lang/String") (V : Fld Z h x "java/lang/String" "value" "[B" (.ref t)) (C : Fld Z h x "java/lang/String" "coder" "B" (.int 0)) (K : Arv Z h t kb .byte (1 : Int32) [.int c.toInt8.toInt32] (.int 0)) (h0 : ¬ c < 0) (h1 : ¬ (255 : Int32) < c) : own_Str Z h x [c] :=
  ⟨t, kb, 0, 1, _, E, V, C, K, Or.inl ⟨rfl, rfl, rfl, fun d hd => by cases List.mem_singleton.mp hd; exact h1⟩, fun d hd => by cases List.mem_singleton.mp hd; exact ⟨h0, fun q => h1 (Int32.lt_trans (by decide) q)⟩, by simp⟩

def own_Q_canenc (Z : State) (h0 : Heap) (n0 : Nat) (v : Option Value) (h : Heap) (L : List Loc) : Prop := v = some (.int 1) ∧ Fr n0 L ∧ h = h0
theorem own_ef_canenc (m : MethodId) (c0 : Int32) : entryFrame m #[(.int c0)] 1 = mkF m 0 #[.val (.int c0)] [] := by first | (simp [entryFrame, mkF, argsToLocals, Value.category, maxLocals]; done) | rfl
set_option maxRecDepth 65536 in
set_option maxHeartbeats 40000000 in
theorem own_rm_canenc (l : Launch) (Z : State) (a0 : Array Value) (hw : ∀ d ∈ tables_1, d.before a0 Z = true) (G1 : Int32) (S1 : Sta Z Z.heap "java/lang/String" "COMPACT_STRINGS" "Z" (.int G1)) (P1 : ¬ G1 = 0) (hCH : Jvm.Lit.constHeld Z "java/lang/String" 7) (hCW : Jvm.Lit.compactW.before a0 Z = true) (ws : List Jvm.Cond) (c0 : Int32) (h0 : Heap) (n0 : Nat) (Z0 : n0 ≤ h0.size) (XO : Old Z n0 h0) (hp : ¬ ((255 : Int32) < c0)) :
    MetFree l (⟨"java/lang/StringLatin1", "canEncode", "(C)Z"⟩ : MethodName) (head1 (Jvm.Cond.code (⟨"java/lang/StringLatin1", "canEncode", "(C)Z"⟩ : MethodName) jdk_43_method_3_code 1 (some .boolean) :: ws) ({ frames := 0, cells := 0, slots := 0, locals := 0 } : Room)) (fun a U => a = #[(.int c0)] ∧ Z.Warmed39 U.vm ∧ U.heap = h0) (fun _ _ _ _ _ => True) (fun _ U o U' => ∃ v L, o = .returned v ∧ (own_Q_canenc Z h0 n0) v U'.heap L ∧ FrameEnd U o U' L ({ frames := 0, cells := 0, slots := 0, locals := 0 } : Room).cells ({ frames := 0, cells := 0, slots := 0, locals := 0 } : Room).slots) := by
  refine MetFree.of_bodySF (plainFor_of_name own_pn1) hisR ?_
  intro p e s m args below meth c s₁ Bd hml0 hP hK
  obtain ⟨rfl, hZ, hh⟩ := hP
  have hx := Bd.exec
  have hby := Bd.bytes
  have hlk : meth.locks = false := BodyLoose.notSynchronized Bd
  have hml : c.maxLocals = 1 := hml0
  have hown : s.vm.findClass "java/lang/StringLatin1" = some m.cls := findClass_of_methodNamed Bd.named
  have hnm := (name_of_methodNamed Bd.named Bd.method).1
  have X0 : Stand p l e ({ frames := 0, cells := 0, slots := 0, locals := 0 } : Room) s m #[(.int c0)] below meth c s₁ [] 0 0 := Stand.of_body Bd
  have e0 : s₁.heap = h0 := by rw [← hh, Bd.state]; rfl
  have N0 := Fr.nil n0
  show own_Fin p e below (s₁.setTop (entryFrame m #[(.int c0)] 1)) (own_End s ((own_Q_canenc Z h0 n0)) ({ frames := 0, cells := 0, slots := 0, locals := 0 } : Room).cells ({ frames := 0, cells := 0, slots := 0, locals := 0 } : Room).slots)
  refine own_st (S' := s₁.setTop (mkF m 0 #[.val (.int c0)] [])) (fun _ k => castTop (own_ef_canenc m c0) k) ?_
  refine own_st (S' := s₁.setTop (mkF m 8 #[.val (.int c0)] [(.int (1 : Int32))])) (fun _ k => XS.iloadN X0.here hx rfl (hb hby own_d_jdk_43_method_3_code_0) rfl (XS.sipush X0.here hx rfl (hb hby own_d_jdk_43_method_3_code_1) (XS.icmpNo X0.here hx rfl (hb hby own_d_jdk_43_method_3_code_4) rfl (flt hp).2.2.1 (XS.iconst X0.here hx rfl (hb hby own_d_jdk_43_method_3_code_7) k)))) ?_
  refine own_st (S' := s₁.setTop (mkF m 12 #[.val (.int c0)] [(.int (1 : Int32))])) (fun _ k => XS.goto X0.here hx rfl (pc0 := 8) (pc' := 12) rfl (hb hby own_d_jdk_43_method_3_code_8) (by decide) (by decide) k) ?_
  refine own_ret X0 hx Bd.returns hlk rfl (Or.inl ⟨rfl, (by simp), _, rfl⟩) (hb hby own_d_jdk_43_method_3_code_12) (by decide) (by decide) ?_
  rw [e0]
  exact ⟨rfl, N0, rfl⟩
def own_Q_tob (Z : State) (c0 : Int32) (h0 : Heap) (n0 : Nat) (v : Option Value) (h : Heap) (L : List Loc) : Prop := ∃ (r : Addr) (k : ClassId), v = some (.ref r) ∧ Fr n0 L ∧ Ext h0 h ∧ h0.size ≤ r ∧ Arv Z h r k .byte (1 : Int32) [.int c0.toInt8.toInt32] (.int 0)
theorem own_ef_tob (m : MethodId) (c0 : Int32) : entryFrame m #[(.int c0)] 1 = mkF m 0 #[.val (.int c0)] [] := by first | (simp [entryFrame, mkF, argsToLocals, Value.category, maxLocals]; done) | rfl
set_option maxRecDepth 65536 in
set_option maxHeartbeats 40000000 in
theorem own_rm_tob (l : Launch) (Z : State) (a0 : Array Value) (hw : ∀ d ∈ tables_1, d.before a0 Z = true) (G1 : Int32) (S1 : Sta Z Z.heap "java/lang/String" "COMPACT_STRINGS" "Z" (.int G1)) (P1 : ¬ G1 = 0) (hCH : Jvm.Lit.constHeld Z "java/lang/String" 7) (hCW : Jvm.Lit.compactW.before a0 Z = true) (ws : List Jvm.Cond) (c0 : Int32) (h0 : Heap) (n0 : Nat) (Z0 : n0 ≤ h0.size) (XO : Old Z n0 h0) :
    MetFree l (⟨"java/lang/StringLatin1", "toBytes", "(C)[B"⟩ : MethodName) (head1 (Jvm.Cond.code (⟨"java/lang/StringLatin1", "toBytes", "(C)[B"⟩ : MethodName) jdk_43_method_46_code 1 (some (.array .byte)) :: ws) ({ frames := 0, cells := 1, slots := 1, locals := 0 } : Room)) (fun a U => a = #[(.int c0)] ∧ Z.Warmed39 U.vm ∧ U.heap = h0) (fun _ _ _ _ _ => True) (fun _ U o U' => ∃ v L, o = .returned v ∧ (own_Q_tob Z c0 h0 n0) v U'.heap L ∧ FrameEnd U o U' L ({ frames := 0, cells := 1, slots := 1, locals := 0 } : Room).cells ({ frames := 0, cells := 1, slots := 1, locals := 0 } : Room).slots) := by
  refine MetFree.of_bodySF (plainFor_of_name own_pn1) hisR ?_
  intro p e s m args below meth c s₁ Bd hml0 hP hK
  obtain ⟨rfl, hZ, hh⟩ := hP
  have hx := Bd.exec
  have hby := Bd.bytes
  have hlk : meth.locks = false := BodyLoose.notSynchronized Bd
  have hml : c.maxLocals = 1 := hml0
  have hown : s.vm.findClass "java/lang/StringLatin1" = some m.cls := findClass_of_methodNamed Bd.named
  have hnm := (name_of_methodNamed Bd.named Bd.method).1
  have X0 : Stand p l e ({ frames := 0, cells := 1, slots := 1, locals := 0 } : Room) s m #[(.int c0)] below meth c s₁ [] 0 0 := Stand.of_body Bd
  have e0 : s₁.heap = h0 := by rw [← hh, Bd.state]; rfl
  have N0 := Fr.nil n0
  show own_Fin p e below (s₁.setTop (entryFrame m #[(.int c0)] 1)) (own_End s ((own_Q_tob Z c0 h0 n0)) ({ frames := 0, cells := 1, slots := 1, locals := 0 } : Room).cells ({ frames := 0, cells := 1, slots := 1, locals := 0 } : Room).slots)
  refine own_st (S' := s₁.setTop (mkF m 0 #[.val (.int c0)] [])) (fun _ k => castTop (own_ef_tob m c0) k) ?_
  refine own_st (S' := s₁.setTop (mkF m 1 #[.val (.int c0)] [(.int (1 : Int32))])) (fun _ k => XS.iconst X0.here hx rfl (hb hby own_d_jdk_43_method_46_code_0) k) ?_
  obtain ⟨T101, h101, k101, X101, e101, E101, A101, AE101, st101⟩ := newPE X0 hx hZ (aty := .byte) (hw _ own_w19) e0 (g := (mkF m 1 #[.val (.int c0)] [(.int (1 : Int32))])) rfl (hb hby own_d_jdk_43_method_46_code_1) rfl (by decide) (cap := 1) (by decide) (by decide) (by decide) (by decide) (ad := "[B") (by decide)
  obtain ⟨b101, g101⟩ : ∃ z, z = h0.size := ⟨_, rfl⟩
  rw [← g101] at A101 AE101 st101
  have V101 : Arv Z h101 b101 k101 .byte (1 : Int32) [(.int (0 : Int32))] (.int (0 : Int32)) := (Arv.new A101 (by decide)).pad (pad_rep [] (.int (0 : Int32)) 1)
  refine own_st (S' := T101.setTop (mkF m 3 #[.val (.int c0)] [(.ref b101)])) st101 ?_
  refine own_st (S' := T101.setTop (mkF m 7 #[.val (.int c0)] [(.int (c0.toInt8.toInt32)), (.int (0 : Int32)), (.ref b101), (.ref b101)])) (fun _ k => XS.dup X101.here hx rfl (hb hby own_d_jdk_43_method_46_code_3) rfl rfl (XS.iconst X101.here hx rfl (hb hby own_d_jdk_43_method_46_code_4) (XS.iloadN X101.here hx rfl (hb hby own_d_jdk_43_method_46_code_5) rfl (XS.i2b X101.here hx rfl (hb hby own_d_jdk_43_method_46_code_6) rfl k)))) ?_
  obtain ⟨c102, A102, q102, S102, M102, H102, U102⟩ := id V101
  obtain ⟨T102, h102, X102, e102, W102, st102⟩ := stB X101 hx hZ e101 A102 (j := (0 : Int32)) (inb_of S102 ⟨by decide, by decide⟩) (g := (mkF m 7 #[.val (.int c0)] [(.int (c0.toInt8.toInt32)), (.int (0 : Int32)), (.ref b101), (.ref b101)])) rfl rfl (hb hby own_d_jdk_43_method_46_code_7)
  have N102 := Fr.snoc X102 N0 (Nat.le_trans Z0 (Nat.le_of_eq g101.symm))
  have V102 : Arv Z h102 b101 k101 .byte (1 : Int32) [(.int (nar .byte (c0.toInt8.toInt32)))] (.int (0 : Int32)) := Arv.set A102 q102 S102 M102 H102 U102 (fits_nar_byte _) W102 0 rfl (Nat.le_of_ble_eq_true rfl)
  refine own_st (S' := T102.setTop (mkF m 8 #[.val (.int c0)] [(.ref b101)])) st102 ?_
  have XE103 : Ext h0 h102 := (own_xw E101 W102 (Nat.le_of_eq g101.symm))
  refine own_ret X102 hx Bd.returns hlk rfl (Or.inr (Or.inr (Or.inr (Or.inr ⟨rfl, rfl, rfl⟩)))) (hb hby own_d_jdk_43_method_46_code_8) (by decide) (by decide) ?_
  rw [e102]
  exact ⟨b101, k101, rfl, N102, XE103, (Nat.le_of_eq g101.symm), (own_nb c0 ▸ V102 : _)⟩
def own_Q_initb (Z : State) (x0 t0 : Addr) (h0 : Heap) (n0 : Nat) (v : Option Value) (h : Heap) (L : List Loc) : Prop := v = none ∧ Fr n0 L ∧ Keep h0 h [x0] ∧ Fld Z h x0 "java/lang/String" "value" "[B" (.ref t0) ∧ Fld Z h x0 "java/lang/String" "coder" "B" (.int 0)
theorem own_ef_initb (m : MethodId) (x0 : Addr) (t0 : Addr) : entryFrame m #[(.ref x0), (.ref t0), (.int (0 : Int32))] 3 = mkF m 0 #[.val (.ref x0), .val (.ref t0), .val (.int (0 : Int32))] [] := by first | (simp [entryFrame, mkF, argsToLocals, Value.category, maxLocals]; done) | rfl
set_option maxRecDepth 65536 in
set_option maxHeartbeats 40000000 in
theorem own_rm_initb (l : Launch) (Z : State) (a0 : Array Value) (hw : ∀ d ∈ tables_1, d.before a0 Z = true) (G1 : Int32) (S1 : Sta Z Z.heap "java/lang/String" "COMPACT_STRINGS" "Z" (.int G1)) (P1 : ¬ G1 = 0) (hCH : Jvm.Lit.constHeld Z "java/lang/String" 7) (hCW : Jvm.Lit.compactW.before a0 Z = true) (ws : List Jvm.Cond) (x0 t0 : Addr) (u0 v0 : Value) (h0 : Heap) (n0 : Nat) (Z0 : n0 ≤ h0.size) (XO : Old Z n0 h0) (g0 : n0 ≤ x0) (E1 : Exa Z h0 x0 "java/lang/String") (F1 : Fld Z h0 x0 "java/lang/String" "value" "[B" u0) (F2 : Fld Z h0 x0 "java/lang/String" "coder" "B" v0) :
    MetFree l (⟨"java/lang/String", "<init>", "([BB)V"⟩ : MethodName) (head1 (Jvm.Cond.code (⟨"java/lang/String", "<init>", "([BB)V"⟩ : MethodName) jdk_42_method_151_code 3 (none) :: ws) ({ frames := 1, cells := 0, slots := 0, locals := 12 } : Room)) (fun a U => a = #[(.ref x0), (.ref t0), (.int (0 : Int32))] ∧ Z.Warmed39 U.vm ∧ U.heap = h0) (fun _ _ _ _ _ => True) (fun _ U o U' => ∃ v L, o = .returned v ∧ (own_Q_initb Z x0 t0 h0 n0) v U'.heap L ∧ FrameEnd U o U' L ({ frames := 1, cells := 0, slots := 0, locals := 12 } : Room).cells ({ frames := 1, cells := 0, slots := 0, locals := 12 } : Room).slots) := by
  refine MetFree.of_bodySF (plainFor_of_name own_pn0) hisR ?_
  intro p e s m args below meth c s₁ Bd hml0 hP hK
  obtain ⟨rfl, hZ, hh⟩ := hP
  have hx := Bd.exec
  have hby := Bd.bytes
  have hlk : meth.locks = false := BodyLoose.notSynchronized Bd
  have hml : c.maxLocals = 3 := hml0
  have hown : s.vm.findClass "java/lang/String" = some m.cls := findClass_of_methodNamed Bd.named
  have hnm := (name_of_methodNamed Bd.named Bd.method).1
  have X0 : Stand p l e ({ frames := 1, cells := 0, slots := 0, locals := 12 } : Room) s m #[(.ref x0), (.ref t0), (.int (0 : Int32))] below meth c s₁ [] 0 0 := Stand.of_body Bd
  have e0 : s₁.heap = h0 := by rw [← hh, Bd.state]; rfl
  have N0 := Fr.nil n0
  show own_Fin p e below (s₁.setTop (entryFrame m #[(.ref x0), (.ref t0), (.int (0 : Int32))] 3)) (own_End s ((own_Q_initb Z x0 t0 h0 n0)) ({ frames := 1, cells := 0, slots := 0, locals := 12 } : Room).cells ({ frames := 1, cells := 0, slots := 0, locals := 12 } : Room).slots)
  refine own_st (S' := s₁.setTop (mkF m 0 #[.val (.ref x0), .val (.ref t0), .val (.int (0 : Int32))] [])) (fun _ k => castTop (own_ef_initb m x0 t0) k) ?_
  refine own_st (S' := s₁.setTop (mkF m 1 #[.val (.ref x0), .val (.ref t0), .val (.int (0 : Int32))] [(.ref x0)])) (fun _ k => XS.aloadN X0.here hx rfl (hb hby own_d_jdk_42_method_151_code_0) rfl rfl k) ?_
  obtain ⟨T101, X101, e101, st101⟩ := initO X0 hx hZ hown (hw _ own_w15) (hw _ own_w16) (hw _ own_w17) e0 (g := (mkF m 1 #[.val (.ref x0), .val (.ref t0), .val (.int (0 : Int32))] [(.ref x0)])) rfl (by rw [hml]; rfl) rfl (hb hby own_d_jdk_42_method_151_code_1) (by decide) (W := 0) (by show 2 * 0 + _ ≤ _; exact Nat.le_of_eq rfl) (by decide)
  refine own_st (S' := T101.setTop (mkF m 4 #[.val (.ref x0), .val (.ref t0), .val (.int (0 : Int32))] [])) st101 ?_
  refine own_st (S' := T101.setTop (mkF m 6 #[.val (.ref x0), .val (.ref t0), .val (.int (0 : Int32))] [(.ref t0), (.ref x0)])) (fun _ k => XS.aloadN X101.here hx rfl (hb hby own_d_jdk_42_method_151_code_4) rfl rfl (XS.aloadN X101.here hx rfl (hb hby own_d_jdk_42_method_151_code_5) rfl rfl k)) ?_
  obtain ⟨T102, h102, X102, e102, W102, st102⟩ := putF X101 hx hZ hown (host := "") (Or.inl (hw _ own_w24)) Via.refl e101 F1 E1 (Or.inr ⟨(hw _ own_w20), rfl, hnm⟩) (hw _ own_w5) (ty := (.array .byte)) (by decide) rfl rfl (g := (mkF m 6 #[.val (.ref x0), .val (.ref t0), .val (.int (0 : Int32))] [(.ref t0), (.ref x0)])) rfl rfl (hb hby own_d_jdk_42_method_151_code_6)
  have N102 := Fr.snoc X102 N0 g0
  refine own_st (S' := T102.setTop (mkF m 9 #[.val (.ref x0), .val (.ref t0), .val (.int (0 : Int32))] [])) st102 ?_
  refine own_st (S' := T102.setTop (mkF m 11 #[.val (.ref x0), .val (.ref t0), .val (.int (0 : Int32))] [(.int (0 : Int32)), (.ref x0)])) (fun _ k => XS.aloadN X102.here hx rfl (hb hby own_d_jdk_42_method_151_code_9) rfl rfl (XS.iloadN X102.here hx rfl (hb hby own_d_jdk_42_method_151_code_10) rfl k)) ?_
  have F103 : Fld Z h102 x0 "java/lang/String" "coder" "B" v0 := (F2.other W102 (Or.inr (slot_ne (Or.inr (hw _ own_w21)) (Or.inr (hw _ own_w20)) (by decide) (t := .byte) (t' := (.array .byte)) (by decide) (by decide))))
  have A104 : Exa Z h102 x0 "java/lang/String" := (E1.wr W102)
  obtain ⟨T105, h105, X105, e105, W105, st105⟩ := putF X102 hx hZ hown (host := "") (Or.inl (hw _ own_w25)) Via.refl e102 F103 A104 (Or.inr ⟨(hw _ own_w21), rfl, hnm⟩) (hw _ own_w5) (ty := .byte) (by decide) rfl rfl (g := (mkF m 11 #[.val (.ref x0), .val (.ref t0), .val (.int (0 : Int32))] [(.int (0 : Int32)), (.ref x0)])) rfl rfl (hb hby own_d_jdk_42_method_151_code_11)
  have N105 := Fr.snoc X105 N102 g0
  refine own_st (S' := T105.setTop (mkF m 14 #[.val (.ref x0), .val (.ref t0), .val (.int (0 : Int32))] [])) st105 ?_
  have F106 : Fld Z h105 x0 "java/lang/String" "value" "[B" (.ref t0) := ((F1.same W102).other W105 (Or.inr (slot_ne (Or.inr (hw _ own_w20)) (Or.inr (hw _ own_w21)) (by decide) (t := (.array .byte)) (t' := .byte) (by decide) (by decide))))
  refine own_ret0 X105 hx Bd.returns hlk (hb hby own_d_jdk_42_method_151_code_14) (by decide) (by decide) ?_
  rw [e105]
  exact ⟨rfl, N105, (((Keep.refl _ _).wr W102 (Or.inl (List.mem_of_getElem? (i := 0) rfl))).wr W105 (Or.inl (List.mem_of_getElem? (i := 0) rfl))), F106, (F103.same W105)⟩
def own_Q_vof (Z : State) (c0 : Int32) (h0 : Heap) (n0 : Nat) (v : Option Value) (h : Heap) (L : List Loc) : Prop := ∃ r, v = some (.ref r) ∧ Fr n0 L ∧ Ext h0 h ∧ h0.size ≤ r ∧ own_Str Z h r [c0]
theorem own_ef_vof (m : MethodId) (c0 : Int32) : entryFrame m #[(.int c0)] 1 = mkF m 0 #[.val (.int c0)] [] := by first | (simp [entryFrame, mkF, argsToLocals, Value.category, maxLocals]; done) | rfl
set_option maxRecDepth 65536 in
set_option maxHeartbeats 40000000 in
theorem own_rm_vof (l : Launch) (Z : State) (a0 : Array Value) (hw : ∀ d ∈ tables_1, d.before a0 Z = true) (G1 : Int32) (S1 : Sta Z Z.heap "java/lang/String" "COMPACT_STRINGS" "Z" (.int G1)) (P1 : ¬ G1 = 0) (hCH : Jvm.Lit.constHeld Z "java/lang/String" 7) (hCW : Jvm.Lit.compactW.before a0 Z = true) (ws : List Jvm.Cond) (c0 : Int32) (h0 : Heap) (n0 : Nat) (Z0 : n0 ≤ h0.size) (XO : Old Z n0 h0) (hp0 : ¬ c0 < 0) (hp : ¬ ((255 : Int32) < c0)) :
    MetFree l (⟨"java/lang/String", "valueOf", "(C)Ljava/lang/String;"⟩ : MethodName) (head1 (Jvm.Cond.code (⟨"java/lang/String", "valueOf", "(C)Ljava/lang/String;"⟩ : MethodName) jdk_42_method_139_code 1 (some (.object "java/lang/String")) :: ws) ({ frames := 2, cells := 2, slots := 5, locals := 27 } : Room)) (fun a U => a = #[(.int c0)] ∧ Z.Warmed39 U.vm ∧ U.heap = h0) (fun _ _ _ _ _ => True) (fun _ U o U' => ∃ v L, o = .returned v ∧ (own_Q_vof Z c0 h0 n0) v U'.heap L ∧ FrameEnd U o U' L ({ frames := 2, cells := 2, slots := 5, locals := 27 } : Room).cells ({ frames := 2, cells := 2, slots := 5, locals := 27 } : Room).slots) := by
  refine MetFree.of_bodySF (plainFor_of_name own_pn0) hisR ?_
  intro p e s m args below meth c s₁ Bd hml0 hP hK
  obtain ⟨rfl, hZ, hh⟩ := hP
  have hx := Bd.exec
  have hby := Bd.bytes
  have hlk : meth.locks = false := BodyLoose.notSynchronized Bd
  have hml : c.maxLocals = 1 := hml0
  have hown : s.vm.findClass "java/lang/String" = some m.cls := findClass_of_methodNamed Bd.named
  have hnm := (name_of_methodNamed Bd.named Bd.method).1
  have X0 : Stand p l e ({ frames := 2, cells := 2, slots := 5, locals := 27 } : Room) s m #[(.int c0)] below meth c s₁ [] 0 0 := Stand.of_body Bd
  have e0 : s₁.heap = h0 := by rw [← hh, Bd.state]; rfl
  have N0 := Fr.nil n0
  show own_Fin p e below (s₁.setTop (entryFrame m #[(.int c0)] 1)) (own_End s ((own_Q_vof Z c0 h0 n0)) ({ frames := 2, cells := 2, slots := 5, locals := 27 } : Room).cells ({ frames := 2, cells := 2, slots := 5, locals := 27 } : Room).slots)
  refine own_st (S' := s₁.setTop (mkF m 0 #[.val (.int c0)] [])) (fun _ k => castTop (own_ef_vof m c0) k) ?_
  have S101 : Sta Z h0 "java/lang/String" "COMPACT_STRINGS" "Z" (.int G1) := (S1.ext XO.2)
  obtain ⟨T102, X102, e102, st102⟩ := getS2 X0 hx hZ hown (host := "") (Or.inl (hw _ own_w29)) Via.refl e0 S101 (g := (mkF m 0 #[.val (.int c0)] [])) rfl (hb hby own_d_jdk_42_method_139_code_0)
  refine own_st (S' := T102.setTop (mkF m 3 #[.val (.int c0)] [(.int G1)])) st102 ?_
  refine own_st (S' := T102.setTop (mkF m 7 #[.val (.int c0)] [(.int c0)])) (fun _ k => XS.ifNo X102.here hx rfl (hb hby own_d_jdk_42_method_139_code_3) rfl ((if0 _ _).trans (feq P1).1) (XS.iloadN X102.here hx rfl (hb hby own_d_jdk_42_method_139_code_6) rfl k)) ?_
  obtain ⟨_, _, ⟨T103, L103, k103, n103⟩, -, X103, ⟨Lc103, hQ103, l103, y103, z103⟩, st103⟩ := Jvm.LawKit.callS X102 hx (y := (⟨"java/lang/StringLatin1", "canEncode", "(C)Z"⟩ : MethodName)) hown (mvT hZ (hw _ own_w30)) (mvT hZ (hw _ own_w31)) (mvT hZ (hw _ own_w32)) (mvT hZ (hw _ own_w33)) (by decide) (backOf (W := 0) (own_rm_canenc l Z a0 hw G1 S1 P1 hCH hCW [] c0 h0 n0 (Nat.le_trans Z0 (Nat.le_refl _)) XO hp) hZ (hw _ own_w33) (hw _ own_w32) (by decide) (by decide)) (g := (mkF m 7 #[.val (.int c0)] [(.int c0)])) rfl (by rw [hml]; rfl) (argsL := [(.int c0)]) (rest := []) (lenOf own_pd1 rfl) rfl (by show 2 * 0 + _ ≤ _; exact Nat.le_of_eq rfl) (hb hby own_d_jdk_42_method_139_code_7) (fun _ _ => ⟨rfl, e102, (by decide : 0 + 0 ≤ _), (by decide : 0 + 0 ≤ _)⟩)
  dsimp only [Pt.U, Pt.locs, Pt.cells, Pt.slots] at X103 l103 y103 z103 st103 hQ103
  subst l103 y103 z103
  obtain ⟨rfl, M103, e103⟩ := hQ103
  have N103 := Fr.app N0 M103
  refine own_st (S' := T103.setTop (mkF m 10 #[.val (.int c0)] [(.int (1 : Int32))])) st103 ?_
  refine own_st (S' := T103.setTop (mkF m 13 #[.val (.int c0)] [])) (fun _ k => XS.ifNo X103.here hx rfl (hb hby own_d_jdk_42_method_139_code_10) rfl (by decide) k) ?_
  obtain ⟨T104, h104, X104, e104, E104, A104, D104, -, st104⟩ := newO X103 hx hZ hown (hw _ own_w34) (hw _ own_w5) (hw _ own_w6) e103 (g := (mkF m 13 #[.val (.int c0)] [])) rfl (hb hby own_d_jdk_42_method_139_code_13) (by decide) (by decide)
  obtain ⟨b104, g104⟩ : ∃ z, z = h0.size := ⟨_, rfl⟩
  rw [← g104] at A104 D104 st104
  refine own_st (S' := T104.setTop (mkF m 16 #[.val (.int c0)] [(.ref b104)])) st104 ?_
  refine own_st (S' := T104.setTop (mkF m 18 #[.val (.int c0)] [(.int c0), (.ref b104), (.ref b104)])) (fun _ k => XS.dup X104.here hx rfl (hb hby own_d_jdk_42_method_139_code_16) rfl rfl (XS.iloadN X104.here hx rfl (hb hby own_d_jdk_42_method_139_code_17) rfl k)) ?_
  have XO105 : Old Z n0 h104 := (XO.ext E104)
  obtain ⟨_, _, ⟨T106, L106, k106, n106⟩, -, X106, ⟨Lc106, hQ106, l106, y106, z106⟩, st106⟩ := Jvm.LawKit.callS X104 hx (y := (⟨"java/lang/StringLatin1", "toBytes", "(C)[B"⟩ : MethodName)) hown (mvT hZ (hw _ own_w35)) (mvT hZ (hw _ own_w36)) (mvT hZ (hw _ own_w32)) (mvT hZ (hw _ own_w37)) (by decide) (backOf (W := 2) (own_rm_tob l Z a0 hw G1 S1 P1 hCH hCW [] c0 h104 n0 (Nat.le_trans Z0 E104.1) XO105 ) hZ (hw _ own_w37) (hw _ own_w32) (by decide) (by decide)) (g := (mkF m 18 #[.val (.int c0)] [(.int c0), (.ref b104), (.ref b104)])) rfl (by rw [hml]; rfl) (argsL := [(.int c0)]) (rest := [(.ref b104), (.ref b104)]) (lenOf own_pd2 rfl) rfl (by show 2 * 0 + _ ≤ _; exact Nat.le_of_eq rfl) (hb hby own_d_jdk_42_method_139_code_18) (fun _ _ => ⟨rfl, e104, (by decide : 1 + 1 ≤ _), (by decide : 4 + 1 ≤ _)⟩)
  dsimp only [Pt.U, Pt.locs, Pt.cells, Pt.slots] at X106 l106 y106 z106 st106 hQ106
  subst l106 y106 z106
  obtain ⟨r106, kr106, rfl, M106, E106, g106, V106⟩ := hQ106
  have N106 := Fr.app N103 M106
  obtain ⟨h106, e106⟩ : ∃ z, T106.heap = z := ⟨_, rfl⟩
  rw [e106] at E106 V106
  refine own_st (S' := T106.setTop (mkF m 21 #[.val (.int c0)] [(.ref r106), (.ref b104), (.ref b104)])) st106 ?_
  refine own_st (S' := T106.setTop (mkF m 22 #[.val (.int c0)] [(.int (0 : Int32)), (.ref r106), (.ref b104), (.ref b104)])) (fun _ k => XS.iconst X106.here hx rfl (hb hby own_d_jdk_42_method_139_code_21) k) ?_
  have A107 : Exa Z h106 b104 "java/lang/String" := (A104.ext E106)
  have F108 : Fld Z h106 b104 "java/lang/String" "value" "[B" .null := ((D104 (Or.inr (hw _ own_w20)) (ty := (.array .byte)) (by decide)).ext E106)
  have F109 : Fld Z h106 b104 "java/lang/String" "coder" "B" (.int (0 : Int32)) := ((D104 (Or.inr (hw _ own_w21)) (ty := .byte) (by decide)).ext E106)
  have XO110 : Old Z n0 h106 := (XO105.ext E106)
  obtain ⟨_, _, ⟨T111, L111, k111, n111⟩, -, X111, ⟨Lc111, hQ111, l111, y111, z111⟩, st111⟩ := X106.specialBack hx (y := (⟨"java/lang/String", "<init>", "([BB)V"⟩ : MethodName)) rfl hown (mvT hZ (hw _ own_w38)) (mvT hZ (hw _ own_w39)) (mvT hZ (hw _ own_w40)) (by decide) (backOf (W := 1) (own_rm_initb l Z a0 hw G1 S1 P1 hCH hCW [] b104 r106 _ _ h106 n0 (Nat.le_trans Z0 (Nat.le_trans E104.1 E106.1)) XO110 (Nat.le_trans Z0 (Nat.le_of_eq g104.symm)) A107 F108 F109) hZ (hw _ own_w40) (hw _ own_w6) (by decide) (by decide)) (g := (mkF m 22 #[.val (.int c0)] [(.int (0 : Int32)), (.ref r106), (.ref b104), (.ref b104)])) rfl (by rw [hml]; rfl) (Steps.refl _) (a := b104) (argsL := [(.ref r106), (.int (0 : Int32))]) (rest := [(.ref b104)]) (lenOf own_pd3 rfl) rfl (by show 2 * 0 + _ ≤ _; exact Nat.le_of_eq rfl) (hb hby own_d_jdk_42_method_139_code_22) (fun _ _ => ⟨rfl, e106, (by decide : 2 + 0 ≤ _), (by decide : 5 + 0 ≤ _)⟩)
  dsimp only [Pt.U, Pt.locs, Pt.cells, Pt.slots] at X111 l111 y111 z111 st111 hQ111
  subst l111 y111 z111
  obtain ⟨rfl, M111, K111, Fv111, Fc111⟩ := hQ111
  have N111 := Fr.app N106 M111
  obtain ⟨h111, e111⟩ : ∃ z, T111.heap = z := ⟨_, rfl⟩
  rw [e111] at K111 Fv111 Fc111
  refine own_tr (S' := T111.setTop (mkF m 25 #[.val (.int c0)] [(.ref b104)])) st111 ?_
  have XE112 : Ext h0 h111 := (own_xk (own_xt E104 E106) K111 (allS (Nat.le_of_eq g104.symm) all0))
  have A113 : Exa Z h111 b104 "java/lang/String" := (A107.keep K111)
  have V114 : Arv Z h111 r106 kr106 .byte (1 : Int32) [(.int c0.toInt8.toInt32)] (.int 0) := (V106.keep K111 (ninS (Ne.symm (Nat.ne_of_lt (Nat.lt_of_lt_of_le A104.lt g106))) nin0))
  refine own_ret X111 hx Bd.returns hlk rfl (Or.inr (Or.inr (Or.inr (Or.inr ⟨rfl, rfl, rfl⟩)))) (hb hby own_d_jdk_42_method_139_code_25) (by decide) (by decide) ?_
  rw [e111]
  exact ⟨b104, rfl, N111, XE112, (Nat.le_of_eq g104.symm), own_Str.one A113 Fv111 Fc111 V114 hp0 hp⟩
def own_Q_str (Z : State) (n1 c1 c2 c3 : Int32) (h0 : Heap) (n0 : Nat) (v : Option Value) (h : Heap) (vm : Vm) (L : List Loc) : Prop := ∃ r, v = some (.ref r) ∧ Fr n0 L ∧ Ext h0 h ∧ h0.size ≤ r ∧ own_Str Z h r (own_txt n1 c1 c2 c3) ∧ own_LS Z vm h
theorem own_ef_str (m : MethodId) (n1 : Int32) (c1 : Int32) (c2 : Int32) (c3 : Int32) : entryFrame m #[(.int n1), (.int c1), (.int c2), (.int c3)] 4 = mkF m 0 #[.val (.int n1), .val (.int c1), .val (.int c2), .val (.int c3)] [] := by first | (simp [entryFrame, mkF, argsToLocals, Value.category, maxLocals]; done) | rfl
set_option maxRecDepth 65536 in
set_option maxHeartbeats 40000000 in
theorem own_rm_str (l : Launch) (Z : State) (a0 : Array Value) (hw : ∀ d ∈ tables_1, d.before a0 Z = true) (G1 : Int32) (S1 : Sta Z Z.heap "java/lang/String" "COMPACT_STRINGS" "Z" (.int G1)) (P1 : ¬ G1 = 0) (hCH : Jvm.Lit.constHeld Z "java/lang/String" 7) (hCW : Jvm.Lit.compactW.before a0 Z = true) (ws : List Jvm.Cond) (n1 c1 c2 c3 : Int32) (h0 : Heap) (n0 : Nat) (Z0 : n0 ≤ h0.size) (XO : Old Z n0 h0) (hc1 : ¬ c1 < 0 ∧ ¬ (255 : Int32) < c1) (hc2 : ¬ c2 < 0 ∧ ¬ (255 : Int32) < c2) (hc3 : ¬ c3 < 0 ∧ ¬ (255 : Int32) < c3) :
    MetFree l (⟨"com/example/banyan/banyan/language/RoleNamedPinLaw", "str", "(ICCC)Ljava/lang/String;"⟩ : MethodName) (head1 (Jvm.Cond.code (⟨"com/example/banyan/banyan/language/RoleNamedPinLaw", "str", "(ICCC)Ljava/lang/String;"⟩ : MethodName) method_2_code 4 (some (.object "java/lang/String")) :: ws) ({ frames := 4, cells := 4, slots := 10, locals := 66 } : Room)) (fun a U => a = #[(.int n1), (.int c1), (.int c2), (.int c3)] ∧ Z.Warmed39 U.vm ∧ U.heap = h0 ∧ own_LS Z U.vm h0) (fun _ _ _ _ _ => True) (fun _ U o U' => ∃ v L, o = .returned v ∧ (own_Q_str Z n1 c1 c2 c3 h0 n0) v U'.heap U'.vm L ∧ ReturnedEndW U o U' L ({ frames := 4, cells := 4, slots := 10, locals := 66 } : Room).cells ({ frames := 4, cells := 4, slots := 10, locals := 66 } : Room).slots) := by
  refine MetFree.of_bodySF (plainFor_of_name own_pn2) hisR ?_
  intro p e s m args below meth c s₁ Bd hml0 hP hK
  obtain ⟨rfl, hZ, hh, hLS⟩ := hP
  have hx := Bd.exec
  have hby := Bd.bytes
  have hlk : meth.locks = false := BodyLoose.notSynchronized Bd
  have hml : c.maxLocals = 4 := hml0
  have hown : s.vm.findClass "com/example/banyan/banyan/language/RoleNamedPinLaw" = some m.cls := findClass_of_methodNamed Bd.named
  have hnm := (name_of_methodNamed Bd.named Bd.method).1
  have X0 : Stand p l e ({ frames := 4, cells := 4, slots := 10, locals := 66 } : Room) (s.setVm s.vm) m #[(.int n1), (.int c1), (.int c2), (.int c3)] below meth c s₁ [] 0 0 := Stand.of_body Bd
  have hZ : Z.Warmed39 (s.setVm s.vm).vm := hZ
  have hown : (s.setVm s.vm).vm.findClass "com/example/banyan/banyan/language/RoleNamedPinLaw" = some m.cls := hown
  have sn0 : s.Since s.vm 0 := (State.WarmedH.refl s).since 0
  have e0 : s₁.heap = h0 := by rw [← hh, Bd.state]; rfl
  have N0 := Fr.nil n0
  show own_Fin p e below (s₁.setTop (entryFrame m #[(.int n1), (.int c1), (.int c2), (.int c3)] 4)) (own_EndW s ((own_Q_str Z n1 c1 c2 c3 h0 n0)) ({ frames := 4, cells := 4, slots := 10, locals := 66 } : Room).cells ({ frames := 4, cells := 4, slots := 10, locals := 66 } : Room).slots)
  refine own_st (S' := s₁.setTop (mkF m 0 #[.val (.int n1), .val (.int c1), .val (.int c2), .val (.int c3)] [])) (fun _ k => castTop (own_ef_str m n1 c1 c2 c3) k) ?_
  refine own_st (S' := s₁.setTop (mkF m 1 #[.val (.int n1), .val (.int c1), .val (.int c2), .val (.int c3)] [(.int n1)])) (fun _ k => XS.iloadN X0.here hx rfl (hb hby own_d_method_2_code_0) rfl k) ?_
  by_cases hc101 : n1 = (0 : Int32)
  · refine own_st (S' := s₁.setTop (mkF m 4 #[.val (.int n1), .val (.int c1), .val (.int c2), .val (.int c3)] [])) (fun _ k => XS.ifNo X0.here hx rfl (hb hby own_d_method_2_code_1) rfl ((if0 _ _).trans (teq hc101).2) k) ?_
    obtain ⟨T102, h102, X102, e102, E102, A102, D102, -, st102⟩ := newO X0 hx hZ hown (hw _ own_w4) (hw _ own_w5) (hw _ own_w6) e0 (g := (mkF m 4 #[.val (.int n1), .val (.int c1), .val (.int c2), .val (.int c3)] [])) rfl (hb hby own_d_method_2_code_4) (by decide) (by decide)
    obtain ⟨b102, g102⟩ : ∃ z, z = h0.size := ⟨_, rfl⟩
    rw [← g102] at A102 D102 st102
    refine own_st (S' := T102.setTop (mkF m 7 #[.val (.int n1), .val (.int c1), .val (.int c2), .val (.int c3)] [(.ref b102)])) st102 ?_
    refine own_st (S' := T102.setTop (mkF m 9 #[.val (.int n1), .val (.int c1), .val (.int c2), .val (.int c3)] [(.int (0 : Int32)), (.ref b102), (.ref b102)])) (fun _ k => XS.dup X102.here hx rfl (hb hby own_d_method_2_code_7) rfl rfl (XS.iconst X102.here hx rfl (hb hby own_d_method_2_code_8) k)) ?_
    obtain ⟨T103, h103, k103, X103, e103, E103, A103, AE103, st103⟩ := newPE X102 hx hZ (aty := .char) (hw _ own_w7) e102 (g := (mkF m 9 #[.val (.int n1), .val (.int c1), .val (.int c2), .val (.int c3)] [(.int (0 : Int32)), (.ref b102), (.ref b102)])) rfl (hb hby own_d_method_2_code_9) rfl (by decide) (cap := 0) (by decide) (by decide) (by decide) (by decide) (ad := "[C") (by decide)
    obtain ⟨b103, g103⟩ : ∃ z, z = h102.size := ⟨_, rfl⟩
    rw [← g103] at A103 AE103 st103
    have V103 : Arv Z h103 b103 k103 .char (0 : Int32) [] (.int (0 : Int32)) := (Arv.new A103 (by decide)).pad (pad_rep [] (.int (0 : Int32)) 0)
    refine own_st (S' := T103.setTop (mkF m 11 #[.val (.int n1), .val (.int c1), .val (.int c2), .val (.int c3)] [(.ref b103), (.ref b102), (.ref b102)])) st103 ?_
    have A104 : Exa Z h103 b102 "java/lang/String" := (A102.ext E103)
    have F105 : Fld Z h103 b102 "java/lang/String" "value" "[B" .null := ((D102 (Or.inr (hw _ own_w20)) (ty := (.array .byte)) (by decide)).ext E103)
    have F106 : Fld Z h103 b102 "java/lang/String" "coder" "B" (.int (0 : Int32)) := ((D102 (Or.inr (hw _ own_w21)) (ty := .byte) (by decide)).ext E103)
    have XE107 : Ext h0 h103 := (own_xt E102 E103)
    have G108 : own_LS Z s.vm h103 := (hLS.ext XE107)
    have XO109 : Old Z n0 h103 := (XO.ext XE107)
    obtain ⟨_, _, ⟨T110, L110, k110, n110⟩, -, X110, sn110, sg110, ⟨Lc110, hQ110, l110, y110, z110⟩, st110⟩ := X103.specialBackS hx (y := (⟨"java/lang/String", "<init>", "([C)V"⟩ : MethodName)) rfl hown (mvT hZ (hw _ own_w8)) (mvT hZ (hw _ own_w9)) (mvT hZ (hw _ own_w10)) (by decide) (own_backS (W := 1) (own_rm_ini1 l Z a0 hw G1 S1 P1 hCH hCW [] b102 b103 _ k103 h103 n0 (Nat.le_trans Z0 (Nat.le_trans E102.1 E103.1)) XO109 (Nat.le_trans Z0 (Nat.le_of_eq g102.symm)) A104 F105 F106 V103) hZ (hw _ own_w10) (hw _ own_w6) (by decide) (by decide)) (g := (mkF m 11 #[.val (.int n1), .val (.int c1), .val (.int c2), .val (.int c3)] [(.ref b103), (.ref b102), (.ref b102)])) rfl (by rw [hml]; rfl) (Steps.refl _) (a := b102) (argsL := [(.ref b103)]) (rest := [(.ref b102)]) (lenOf own_pd4 rfl) rfl (by show 2 * 0 + _ ≤ _; exact Nat.le_of_eq rfl) (hb hby own_d_method_2_code_11) (fun _ hv => ⟨rfl, e103, (by decide : 2 + 2 ≤ _), (by decide : 4 + 4 ≤ _), G108.warm hv⟩)
    dsimp only [Pt.U, Pt.locs, Pt.cells, Pt.slots] at X110 l110 y110 z110 st110 hQ110 sn110 sg110
    subst l110 y110 z110
    obtain ⟨XX110, ss110, hz110, ho110⟩ := rebS sn0 (n1 := T103.heap.size) (by rw [e103]; exact Nat.le_trans (Nat.zero_le _) (Nat.le_trans E102.1 E103.1)) X110 sn110 sg110 hZ hown
    obtain ⟨rfl, M110, K110, Y110, LS110⟩ := hQ110
    have N110 := Fr.app N0 M110
    obtain ⟨h110, e110⟩ : ∃ z, T110.heap = z := ⟨_, rfl⟩
    rw [e110] at K110 LS110 ss110 Y110
    refine own_tr (S' := T110.setTop (mkF m 14 #[.val (.int n1), .val (.int c1), .val (.int c2), .val (.int c3)] [(.ref b102)])) st110 ?_
    have yy : own_Str Z h110 b102 (own_txt n1 c1 c2 c3) := (own_t0 hc101).symm ▸ Y110
    have XE111 : Ext h0 h110 := (own_xk XE107 K110 (allS (Nat.le_of_eq g102.symm) all0))
    refine own_retW XX110 hx ss110 (by rw [e110]; exact Nat.le_trans (Nat.le_refl _) (Nat.le_refl _)) Bd.returns hlk rfl (Or.inr (Or.inr (Or.inr (Or.inr ⟨rfl, rfl, rfl⟩)))) (hb hby own_d_method_2_code_14) (by decide) (by decide) ?_
    rw [e110]
    exact ⟨b102, rfl, N110, XE111, (Nat.le_of_eq g102.symm), yy, (LS110.warm XX110.warmed)⟩
  · refine own_st (S' := s₁.setTop (mkF m 17 #[.val (.int n1), .val (.int c1), .val (.int c2), .val (.int c3)] [(.int (1 : Int32)), (.int n1)])) (fun _ k => XS.ifYes X0.here hx rfl (pc0 := 1) (pc' := 15) rfl (hb hby own_d_method_2_code_1) rfl ((if0 _ _).trans (feq hc101).2) (by decide) (by decide) (XS.iloadN X0.here hx rfl (hb hby own_d_method_2_code_15) rfl (XS.iconst X0.here hx rfl (hb hby own_d_method_2_code_16) k))) ?_
    by_cases hc112 : n1 = (1 : Int32)
    · refine own_st (S' := s₁.setTop (mkF m 21 #[.val (.int n1), .val (.int c1), .val (.int c2), .val (.int c3)] [(.int c1)])) (fun _ k => XS.icmpNo X0.here hx rfl (hb hby own_d_method_2_code_17) rfl (teq hc112).2 (XS.iloadN X0.here hx rfl (hb hby own_d_method_2_code_20) rfl k)) ?_
      obtain ⟨_, _, ⟨T113, L113, k113, n113⟩, -, X113, ⟨Lc113, hQ113, l113, y113, z113⟩, st113⟩ := Jvm.LawKit.callS X0 hx (y := (⟨"java/lang/String", "valueOf", "(C)Ljava/lang/String;"⟩ : MethodName)) hown (mvT hZ (hw _ own_w26)) (mvT hZ (hw _ own_w27)) (mvT hZ (hw _ own_w6)) (mvT hZ (hw _ own_w28)) (by decide) (backOf (W := 0) (own_rm_vof l Z a0 hw G1 S1 P1 hCH hCW [] c1 h0 n0 (Nat.le_trans Z0 (Nat.le_refl _)) XO hc1.1 hc1.2) hZ (hw _ own_w28) (hw _ own_w6) (by decide) (by decide)) (g := (mkF m 21 #[.val (.int n1), .val (.int c1), .val (.int c2), .val (.int c3)] [(.int c1)])) rfl (by rw [hml]; rfl) (argsL := [(.int c1)]) (rest := []) (lenOf own_pd5 rfl) rfl (by show 2 * 0 + _ ≤ _; exact Nat.le_of_eq rfl) (hb hby own_d_method_2_code_21) (fun _ _ => ⟨rfl, e0, (by decide : 0 + 2 ≤ _), (by decide : 0 + 5 ≤ _)⟩)
      dsimp only [Pt.U, Pt.locs, Pt.cells, Pt.slots] at X113 l113 y113 z113 st113 hQ113
      subst l113 y113 z113
      obtain ⟨r113, rfl, M113, E113, g113, Y113⟩ := hQ113
      have N113 := Fr.app N0 M113
      obtain ⟨h113, e113⟩ : ∃ z, T113.heap = z := ⟨_, rfl⟩
      rw [e113] at E113 Y113
      refine own_st (S' := T113.setTop (mkF m 24 #[.val (.int n1), .val (.int c1), .val (.int c2), .val (.int c3)] [(.ref r113)])) st113 ?_
      have yy : own_Str Z h113 r113 (own_txt n1 c1 c2 c3) := (own_t1 hc101 hc112).symm ▸ Y113
      have G114 : own_LS Z s.vm h113 := (hLS.ext E113)
      refine own_retW X113 hx sn0 (by rw [e113]; exact Nat.le_trans (Nat.zero_le _) E113.1) Bd.returns hlk rfl (Or.inr (Or.inr (Or.inr (Or.inr ⟨rfl, rfl, rfl⟩)))) (hb hby own_d_method_2_code_24) (by decide) (by decide) ?_
      rw [e113]
      exact ⟨r113, rfl, N113, E113, g113, yy, (G114.warm X113.warmed)⟩
    · refine own_st (S' := s₁.setTop (mkF m 27 #[.val (.int n1), .val (.int c1), .val (.int c2), .val (.int c3)] [(.int (2 : Int32)), (.int n1)])) (fun _ k => XS.icmpYes X0.here hx rfl (pc0 := 17) (pc' := 25) rfl (hb hby own_d_method_2_code_17) rfl (feq hc112).2 (by decide) (by decide) (XS.iloadN X0.here hx rfl (hb hby own_d_method_2_code_25) rfl (XS.iconst X0.here hx rfl (hb hby own_d_method_2_code_26) k))) ?_
      by_cases hc115 : n1 = (2 : Int32)
      · refine own_st (S' := s₁.setTop (mkF m 30 #[.val (.int n1), .val (.int c1), .val (.int c2), .val (.int c3)] [])) (fun _ k => XS.icmpNo X0.here hx rfl (hb hby own_d_method_2_code_27) rfl (teq hc115).2 k) ?_
        obtain ⟨T116, h116, X116, e116, E116, A116, D116, -, st116⟩ := newO X0 hx hZ hown (hw _ own_w4) (hw _ own_w5) (hw _ own_w6) e0 (g := (mkF m 30 #[.val (.int n1), .val (.int c1), .val (.int c2), .val (.int c3)] [])) rfl (hb hby own_d_method_2_code_30) (by decide) (by decide)
        obtain ⟨b116, g116⟩ : ∃ z, z = h0.size := ⟨_, rfl⟩
        rw [← g116] at A116 D116 st116
        refine own_st (S' := T116.setTop (mkF m 33 #[.val (.int n1), .val (.int c1), .val (.int c2), .val (.int c3)] [(.ref b116)])) st116 ?_
        refine own_st (S' := T116.setTop (mkF m 35 #[.val (.int n1), .val (.int c1), .val (.int c2), .val (.int c3)] [(.int (2 : Int32)), (.ref b116), (.ref b116)])) (fun _ k => XS.dup X116.here hx rfl (hb hby own_d_method_2_code_33) rfl rfl (XS.iconst X116.here hx rfl (hb hby own_d_method_2_code_34) k)) ?_
        obtain ⟨T117, h117, k117, X117, e117, E117, A117, AE117, st117⟩ := newPE X116 hx hZ (aty := .char) (hw _ own_w7) e116 (g := (mkF m 35 #[.val (.int n1), .val (.int c1), .val (.int c2), .val (.int c3)] [(.int (2 : Int32)), (.ref b116), (.ref b116)])) rfl (hb hby own_d_method_2_code_35) rfl (by decide) (cap := 2) (by decide) (by decide) (by decide) (by decide) (ad := "[C") (by decide)
        obtain ⟨b117, g117⟩ : ∃ z, z = h116.size := ⟨_, rfl⟩
        rw [← g117] at A117 AE117 st117
        have V117 : Arv Z h117 b117 k117 .char (2 : Int32) [(.int (0 : Int32)), (.int (0 : Int32))] (.int (0 : Int32)) := (Arv.new A117 (by decide)).pad (pad_rep [] (.int (0 : Int32)) 2)
        refine own_st (S' := T117.setTop (mkF m 37 #[.val (.int n1), .val (.int c1), .val (.int c2), .val (.int c3)] [(.ref b117), (.ref b116), (.ref b116)])) st117 ?_
        refine own_st (S' := T117.setTop (mkF m 40 #[.val (.int n1), .val (.int c1), .val (.int c2), .val (.int c3)] [(.int c1), (.int (0 : Int32)), (.ref b117), (.ref b117), (.ref b116), (.ref b116)])) (fun _ k => XS.dup X117.here hx rfl (hb hby own_d_method_2_code_37) rfl rfl (XS.iconst X117.here hx rfl (hb hby own_d_method_2_code_38) (XS.iloadN X117.here hx rfl (hb hby own_d_method_2_code_39) rfl k))) ?_
        obtain ⟨c118, A118, q118, S118, M118, H118, U118⟩ := id V117
        obtain ⟨T118, h118, X118, e118, W118, st118⟩ := stC X117 hx hZ e117 A118 (j := (0 : Int32)) (inb_of S118 ⟨by decide, by decide⟩) (g := (mkF m 40 #[.val (.int n1), .val (.int c1), .val (.int c2), .val (.int c3)] [(.int c1), (.int (0 : Int32)), (.ref b117), (.ref b117), (.ref b116), (.ref b116)])) rfl rfl (hb hby own_d_method_2_code_40)
        have N118 := Fr.snoc X118 N0 (Nat.le_trans Z0 (Nat.le_trans E116.1 (Nat.le_of_eq g117.symm)))
        have V118 : Arv Z h118 b117 k117 .char (2 : Int32) [(.int (nar .char c1)), (.int (0 : Int32))] (.int (0 : Int32)) := Arv.set A118 q118 S118 M118 H118 U118 (fits_nar_char _) W118 0 rfl (Nat.le_of_ble_eq_true rfl)
        refine own_st (S' := T118.setTop (mkF m 41 #[.val (.int n1), .val (.int c1), .val (.int c2), .val (.int c3)] [(.ref b117), (.ref b116), (.ref b116)])) st118 ?_
        refine own_st (S' := T118.setTop (mkF m 44 #[.val (.int n1), .val (.int c1), .val (.int c2), .val (.int c3)] [(.int c2), (.int (1 : Int32)), (.ref b117), (.ref b117), (.ref b116), (.ref b116)])) (fun _ k => XS.dup X118.here hx rfl (hb hby own_d_method_2_code_41) rfl rfl (XS.iconst X118.here hx rfl (hb hby own_d_method_2_code_42) (XS.iloadN X118.here hx rfl (hb hby own_d_method_2_code_43) rfl k))) ?_
        obtain ⟨c119, A119, q119, S119, M119, H119, U119⟩ := id V118
        obtain ⟨T119, h119, X119, e119, W119, st119⟩ := stC X118 hx hZ e118 A119 (j := (1 : Int32)) (inb_of S119 ⟨by decide, by decide⟩) (g := (mkF m 44 #[.val (.int n1), .val (.int c1), .val (.int c2), .val (.int c3)] [(.int c2), (.int (1 : Int32)), (.ref b117), (.ref b117), (.ref b116), (.ref b116)])) rfl rfl (hb hby own_d_method_2_code_44)
        have N119 := Fr.snoc X119 N118 (Nat.le_trans Z0 (Nat.le_trans E116.1 (Nat.le_of_eq g117.symm)))
        have V119 : Arv Z h119 b117 k117 .char (2 : Int32) [(.int (nar .char c1)), (.int (nar .char c2))] (.int (0 : Int32)) := Arv.set A119 q119 S119 M119 H119 U119 (fits_nar_char _) W119 1 rfl (Nat.le_of_ble_eq_true rfl)
        refine own_st (S' := T119.setTop (mkF m 45 #[.val (.int n1), .val (.int c1), .val (.int c2), .val (.int c3)] [(.ref b117), (.ref b116), (.ref b116)])) st119 ?_
        have XE120 : Ext h116 h119 := (own_xw (own_xw E117 W118 (Nat.le_of_eq g117.symm)) W119 (Nat.le_of_eq g117.symm))
        have A121 : Exa Z h119 b116 "java/lang/String" := (A116.ext XE120)
        have F122 : Fld Z h119 b116 "java/lang/String" "value" "[B" .null := ((D116 (Or.inr (hw _ own_w20)) (ty := (.array .byte)) (by decide)).ext XE120)
        have F123 : Fld Z h119 b116 "java/lang/String" "coder" "B" (.int (0 : Int32)) := ((D116 (Or.inr (hw _ own_w21)) (ty := .byte) (by decide)).ext XE120)
        have XE124 : Ext h0 h119 := (own_xw (own_xw (own_xt E116 E117) W118 (Nat.le_trans E116.1 (Nat.le_of_eq g117.symm))) W119 (Nat.le_trans E116.1 (Nat.le_of_eq g117.symm)))
        have XO125 : Old Z n0 h119 := (XO.ext XE124)
        have S126 : Sta Z h119 "java/lang/String" "COMPACT_STRINGS" "Z" (.int G1) := (S1.ext XO125.2)
        obtain ⟨_, _, ⟨T127, L127, k127, n127⟩, -, X127, ⟨Lc127, hQ127, l127, y127, z127⟩, st127⟩ := X119.specialBack hx (y := (⟨"java/lang/String", "<init>", "([C)V"⟩ : MethodName)) rfl hown (mvT hZ (hw _ own_w8)) (mvT hZ (hw _ own_w9)) (mvT hZ (hw _ own_w10)) (by decide) (own_newB (W := 1) hZ hw (cs := [nar .char c1, nar .char c2]) (n := 2) (n0 := n0) (Nat.le_trans Z0 (Nat.le_of_eq g116.symm)) (Nat.le_trans Z0 (Nat.le_trans (Nat.le_trans (Nat.le_trans E116.1 E117.1) (Nat.le_of_eq W118.size.symm)) (Nat.le_of_eq W119.size.symm))) A121 F122 F123 V119 S126 P1 rfl rfl (by decide) (by decide) (own_hp2 hc1 hc2) (by decide) (by decide)) (g := (mkF m 45 #[.val (.int n1), .val (.int c1), .val (.int c2), .val (.int c3)] [(.ref b117), (.ref b116), (.ref b116)])) rfl (by rw [hml]; rfl) (Steps.refl _) (a := b116) (argsL := [(.ref b117)]) (rest := [(.ref b116)]) (lenOf own_pd4 rfl) rfl (by show 2 * 0 + _ ≤ _; exact Nat.le_of_eq rfl) (hb hby own_d_method_2_code_45) (fun _ _ => ⟨rfl, e119, (by decide : 2 + 1 ≤ _), (by decide : 6 + 2 ≤ _)⟩)
        dsimp only [Pt.U, Pt.locs, Pt.cells, Pt.slots] at X127 l127 y127 z127 st127 hQ127
        subst l127 y127 z127
        obtain ⟨rfl, M127, K127, Y127⟩ := hQ127
        have N127 := Fr.app N119 M127
        obtain ⟨h127, e127⟩ : ∃ z, T127.heap = z := ⟨_, rfl⟩
        rw [e127] at K127 Y127
        refine own_tr (S' := T127.setTop (mkF m 48 #[.val (.int n1), .val (.int c1), .val (.int c2), .val (.int c3)] [(.ref b116)])) st127 ?_
        have yy : own_Str Z h127 b116 (own_txt n1 c1 c2 c3) := by rw [own_t2 hc101 hc112 hc115]; have q := Y127; rw [own_nar hc1, own_nar hc2] at q; exact q
        have XE128 : Ext h0 h127 := (own_xk XE124 K127 (allS (Nat.le_of_eq g116.symm) all0))
        have G129 : own_LS Z s.vm h127 := (hLS.ext XE128)
        refine own_retW X127 hx sn0 (by rw [e127]; exact Nat.le_trans (Nat.zero_le _) (Nat.le_trans (Nat.le_trans (Nat.le_trans (Nat.le_trans E116.1 E117.1) (Nat.le_of_eq W118.size.symm)) (Nat.le_of_eq W119.size.symm)) K127.1)) Bd.returns hlk rfl (Or.inr (Or.inr (Or.inr (Or.inr ⟨rfl, rfl, rfl⟩)))) (hb hby own_d_method_2_code_48) (by decide) (by decide) ?_
        rw [e127]
        exact ⟨b116, rfl, N127, XE128, (Nat.le_of_eq g116.symm), yy, (G129.warm X127.warmed)⟩
      · refine own_st (S' := s₁.setTop (mkF m 49 #[.val (.int n1), .val (.int c1), .val (.int c2), .val (.int c3)] [])) (fun _ k => XS.icmpYes X0.here hx rfl (pc0 := 27) (pc' := 49) rfl (hb hby own_d_method_2_code_27) rfl (feq hc115).2 (by decide) (by decide) k) ?_
        obtain ⟨T130, h130, X130, e130, E130, A130, D130, -, st130⟩ := newO X0 hx hZ hown (hw _ own_w4) (hw _ own_w5) (hw _ own_w6) e0 (g := (mkF m 49 #[.val (.int n1), .val (.int c1), .val (.int c2), .val (.int c3)] [])) rfl (hb hby own_d_method_2_code_49) (by decide) (by decide)
        obtain ⟨b130, g130⟩ : ∃ z, z = h0.size := ⟨_, rfl⟩
        rw [← g130] at A130 D130 st130
        refine own_st (S' := T130.setTop (mkF m 52 #[.val (.int n1), .val (.int c1), .val (.int c2), .val (.int c3)] [(.ref b130)])) st130 ?_
        refine own_st (S' := T130.setTop (mkF m 54 #[.val (.int n1), .val (.int c1), .val (.int c2), .val (.int c3)] [(.int (3 : Int32)), (.ref b130), (.ref b130)])) (fun _ k => XS.dup X130.here hx rfl (hb hby own_d_method_2_code_52) rfl rfl (XS.iconst X130.here hx rfl (hb hby own_d_method_2_code_53) k)) ?_
        obtain ⟨T131, h131, k131, X131, e131, E131, A131, AE131, st131⟩ := newPE X130 hx hZ (aty := .char) (hw _ own_w7) e130 (g := (mkF m 54 #[.val (.int n1), .val (.int c1), .val (.int c2), .val (.int c3)] [(.int (3 : Int32)), (.ref b130), (.ref b130)])) rfl (hb hby own_d_method_2_code_54) rfl (by decide) (cap := 3) (by decide) (by decide) (by decide) (by decide) (ad := "[C") (by decide)
        obtain ⟨b131, g131⟩ : ∃ z, z = h130.size := ⟨_, rfl⟩
        rw [← g131] at A131 AE131 st131
        have V131 : Arv Z h131 b131 k131 .char (3 : Int32) [(.int (0 : Int32)), (.int (0 : Int32)), (.int (0 : Int32))] (.int (0 : Int32)) := (Arv.new A131 (by decide)).pad (pad_rep [] (.int (0 : Int32)) 3)
        refine own_st (S' := T131.setTop (mkF m 56 #[.val (.int n1), .val (.int c1), .val (.int c2), .val (.int c3)] [(.ref b131), (.ref b130), (.ref b130)])) st131 ?_
        refine own_st (S' := T131.setTop (mkF m 59 #[.val (.int n1), .val (.int c1), .val (.int c2), .val (.int c3)] [(.int c1), (.int (0 : Int32)), (.ref b131), (.ref b131), (.ref b130), (.ref b130)])) (fun _ k => XS.dup X131.here hx rfl (hb hby own_d_method_2_code_56) rfl rfl (XS.iconst X131.here hx rfl (hb hby own_d_method_2_code_57) (XS.iloadN X131.here hx rfl (hb hby own_d_method_2_code_58) rfl k))) ?_
        obtain ⟨c132, A132, q132, S132, M132, H132, U132⟩ := id V131
        obtain ⟨T132, h132, X132, e132, W132, st132⟩ := stC X131 hx hZ e131 A132 (j := (0 : Int32)) (inb_of S132 ⟨by decide, by decide⟩) (g := (mkF m 59 #[.val (.int n1), .val (.int c1), .val (.int c2), .val (.int c3)] [(.int c1), (.int (0 : Int32)), (.ref b131), (.ref b131), (.ref b130), (.ref b130)])) rfl rfl (hb hby own_d_method_2_code_59)
        have N132 := Fr.snoc X132 N0 (Nat.le_trans Z0 (Nat.le_trans E130.1 (Nat.le_of_eq g131.symm)))
        have V132 : Arv Z h132 b131 k131 .char (3 : Int32) [(.int (nar .char c1)), (.int (0 : Int32)), (.int (0 : Int32))] (.int (0 : Int32)) := Arv.set A132 q132 S132 M132 H132 U132 (fits_nar_char _) W132 0 rfl (Nat.le_of_ble_eq_true rfl)
        refine own_st (S' := T132.setTop (mkF m 60 #[.val (.int n1), .val (.int c1), .val (.int c2), .val (.int c3)] [(.ref b131), (.ref b130), (.ref b130)])) st132 ?_
        refine own_st (S' := T132.setTop (mkF m 63 #[.val (.int n1), .val (.int c1), .val (.int c2), .val (.int c3)] [(.int c2), (.int (1 : Int32)), (.ref b131), (.ref b131), (.ref b130), (.ref b130)])) (fun _ k => XS.dup X132.here hx rfl (hb hby own_d_method_2_code_60) rfl rfl (XS.iconst X132.here hx rfl (hb hby own_d_method_2_code_61) (XS.iloadN X132.here hx rfl (hb hby own_d_method_2_code_62) rfl k))) ?_
        obtain ⟨c133, A133, q133, S133, M133, H133, U133⟩ := id V132
        obtain ⟨T133, h133, X133, e133, W133, st133⟩ := stC X132 hx hZ e132 A133 (j := (1 : Int32)) (inb_of S133 ⟨by decide, by decide⟩) (g := (mkF m 63 #[.val (.int n1), .val (.int c1), .val (.int c2), .val (.int c3)] [(.int c2), (.int (1 : Int32)), (.ref b131), (.ref b131), (.ref b130), (.ref b130)])) rfl rfl (hb hby own_d_method_2_code_63)
        have N133 := Fr.snoc X133 N132 (Nat.le_trans Z0 (Nat.le_trans E130.1 (Nat.le_of_eq g131.symm)))
        have V133 : Arv Z h133 b131 k131 .char (3 : Int32) [(.int (nar .char c1)), (.int (nar .char c2)), (.int (0 : Int32))] (.int (0 : Int32)) := Arv.set A133 q133 S133 M133 H133 U133 (fits_nar_char _) W133 1 rfl (Nat.le_of_ble_eq_true rfl)
        refine own_st (S' := T133.setTop (mkF m 64 #[.val (.int n1), .val (.int c1), .val (.int c2), .val (.int c3)] [(.ref b131), (.ref b130), (.ref b130)])) st133 ?_
        refine own_st (S' := T133.setTop (mkF m 67 #[.val (.int n1), .val (.int c1), .val (.int c2), .val (.int c3)] [(.int c3), (.int (2 : Int32)), (.ref b131), (.ref b131), (.ref b130), (.ref b130)])) (fun _ k => XS.dup X133.here hx rfl (hb hby own_d_method_2_code_64) rfl rfl (XS.iconst X133.here hx rfl (hb hby own_d_method_2_code_65) (XS.iloadN X133.here hx rfl (hb hby own_d_method_2_code_66) rfl k))) ?_
        obtain ⟨c134, A134, q134, S134, M134, H134, U134⟩ := id V133
        obtain ⟨T134, h134, X134, e134, W134, st134⟩ := stC X133 hx hZ e133 A134 (j := (2 : Int32)) (inb_of S134 ⟨by decide, by decide⟩) (g := (mkF m 67 #[.val (.int n1), .val (.int c1), .val (.int c2), .val (.int c3)] [(.int c3), (.int (2 : Int32)), (.ref b131), (.ref b131), (.ref b130), (.ref b130)])) rfl rfl (hb hby own_d_method_2_code_67)
        have N134 := Fr.snoc X134 N133 (Nat.le_trans Z0 (Nat.le_trans E130.1 (Nat.le_of_eq g131.symm)))
        have V134 : Arv Z h134 b131 k131 .char (3 : Int32) [(.int (nar .char c1)), (.int (nar .char c2)), (.int (nar .char c3))] (.int (0 : Int32)) := Arv.set A134 q134 S134 M134 H134 U134 (fits_nar_char _) W134 2 rfl (Nat.le_of_ble_eq_true rfl)
        refine own_st (S' := T134.setTop (mkF m 68 #[.val (.int n1), .val (.int c1), .val (.int c2), .val (.int c3)] [(.ref b131), (.ref b130), (.ref b130)])) st134 ?_
        have XE135 : Ext h130 h134 := (own_xw (own_xw (own_xw E131 W132 (Nat.le_of_eq g131.symm)) W133 (Nat.le_of_eq g131.symm)) W134 (Nat.le_of_eq g131.symm))
        have A136 : Exa Z h134 b130 "java/lang/String" := (A130.ext XE135)
        have F137 : Fld Z h134 b130 "java/lang/String" "value" "[B" .null := ((D130 (Or.inr (hw _ own_w20)) (ty := (.array .byte)) (by decide)).ext XE135)
        have F138 : Fld Z h134 b130 "java/lang/String" "coder" "B" (.int (0 : Int32)) := ((D130 (Or.inr (hw _ own_w21)) (ty := .byte) (by decide)).ext XE135)
        have XE139 : Ext h0 h134 := (own_xw (own_xw (own_xw (own_xt E130 E131) W132 (Nat.le_trans E130.1 (Nat.le_of_eq g131.symm))) W133 (Nat.le_trans E130.1 (Nat.le_of_eq g131.symm))) W134 (Nat.le_trans E130.1 (Nat.le_of_eq g131.symm)))
        have XO140 : Old Z n0 h134 := (XO.ext XE139)
        have S141 : Sta Z h134 "java/lang/String" "COMPACT_STRINGS" "Z" (.int G1) := (S1.ext XO140.2)
        obtain ⟨_, _, ⟨T142, L142, k142, n142⟩, -, X142, ⟨Lc142, hQ142, l142, y142, z142⟩, st142⟩ := X134.specialBack hx (y := (⟨"java/lang/String", "<init>", "([C)V"⟩ : MethodName)) rfl hown (mvT hZ (hw _ own_w8)) (mvT hZ (hw _ own_w9)) (mvT hZ (hw _ own_w10)) (by decide) (own_newB (W := 1) hZ hw (cs := [nar .char c1, nar .char c2, nar .char c3]) (n := 3) (n0 := n0) (Nat.le_trans Z0 (Nat.le_of_eq g130.symm)) (Nat.le_trans Z0 (Nat.le_trans (Nat.le_trans (Nat.le_trans (Nat.le_trans E130.1 E131.1) (Nat.le_of_eq W132.size.symm)) (Nat.le_of_eq W133.size.symm)) (Nat.le_of_eq W134.size.symm))) A136 F137 F138 V134 S141 P1 rfl rfl (by decide) (by decide) (own_hp3 hc1 hc2 hc3) (by decide) (by decide)) (g := (mkF m 68 #[.val (.int n1), .val (.int c1), .val (.int c2), .val (.int c3)] [(.ref b131), (.ref b130), (.ref b130)])) rfl (by rw [hml]; rfl) (Steps.refl _) (a := b130) (argsL := [(.ref b131)]) (rest := [(.ref b130)]) (lenOf own_pd4 rfl) rfl (by show 2 * 0 + _ ≤ _; exact Nat.le_of_eq rfl) (hb hby own_d_method_2_code_68) (fun _ _ => ⟨rfl, e134, (by decide : 2 + 1 ≤ _), (by decide : 7 + 3 ≤ _)⟩)
        dsimp only [Pt.U, Pt.locs, Pt.cells, Pt.slots] at X142 l142 y142 z142 st142 hQ142
        subst l142 y142 z142
        obtain ⟨rfl, M142, K142, Y142⟩ := hQ142
        have N142 := Fr.app N134 M142
        obtain ⟨h142, e142⟩ : ∃ z, T142.heap = z := ⟨_, rfl⟩
        rw [e142] at K142 Y142
        refine own_tr (S' := T142.setTop (mkF m 71 #[.val (.int n1), .val (.int c1), .val (.int c2), .val (.int c3)] [(.ref b130)])) st142 ?_
        have yy : own_Str Z h142 b130 (own_txt n1 c1 c2 c3) := by rw [own_t3 hc101 hc112 hc115]; have q := Y142; rw [own_nar hc1, own_nar hc2, own_nar hc3] at q; exact q
        have XE143 : Ext h0 h142 := (own_xk XE139 K142 (allS (Nat.le_of_eq g130.symm) all0))
        have G144 : own_LS Z s.vm h142 := (hLS.ext XE143)
        refine own_retW X142 hx sn0 (by rw [e142]; exact Nat.le_trans (Nat.zero_le _) (Nat.le_trans (Nat.le_trans (Nat.le_trans (Nat.le_trans (Nat.le_trans E130.1 E131.1) (Nat.le_of_eq W132.size.symm)) (Nat.le_of_eq W133.size.symm)) (Nat.le_of_eq W134.size.symm)) K142.1)) Bd.returns hlk rfl (Or.inr (Or.inr (Or.inr (Or.inr ⟨rfl, rfl, rfl⟩)))) (hb hby own_d_method_2_code_71) (by decide) (by decide) ?_
        rw [e142]
        exact ⟨b130, rfl, N142, XE143, (Nat.le_of_eq g130.symm), yy, (G144.warm X142.warmed)⟩
def own_Q_rnn (Z : State) (x0 : Addr) (h0 : Heap) (n0 : Nat) (v : Option Value) (h : Heap) (L : List Loc) : Prop := v = some (.ref x0) ∧ Fr n0 L ∧ h = h0
theorem own_ef_rnn (m : MethodId) (x0 : Addr) : entryFrame m #[(.ref x0)] 1 = mkF m 0 #[.val (.ref x0)] [] := by first | (simp [entryFrame, mkF, argsToLocals, Value.category, maxLocals]; done) | rfl
set_option maxRecDepth 65536 in
set_option maxHeartbeats 40000000 in
theorem own_rm_rnn (l : Launch) (Z : State) (a0 : Array Value) (hw : ∀ d ∈ tables_1, d.before a0 Z = true) (G1 : Int32) (S1 : Sta Z Z.heap "java/lang/String" "COMPACT_STRINGS" "Z" (.int G1)) (P1 : ¬ G1 = 0) (hCH : Jvm.Lit.constHeld Z "java/lang/String" 7) (hCW : Jvm.Lit.compactW.before a0 Z = true) (ws : List Jvm.Cond) (x0 : Addr) (h0 : Heap) (n0 : Nat) (Z0 : n0 ≤ h0.size) (XO : Old Z n0 h0) :
    MetFree l (⟨"java/util/Objects", "requireNonNull", "(Ljava/lang/Object;)Ljava/lang/Object;"⟩ : MethodName) (head1 (Jvm.Cond.code (⟨"java/util/Objects", "requireNonNull", "(Ljava/lang/Object;)Ljava/lang/Object;"⟩ : MethodName) jdk_31_method_10_code 1 (some (.object "java/lang/Object")) :: ws) ({ frames := 0, cells := 0, slots := 0, locals := 0 } : Room)) (fun a U => a = #[(.ref x0)] ∧ Z.Warmed39 U.vm ∧ U.heap = h0) (fun _ _ _ _ _ => True) (fun _ U o U' => ∃ v L, o = .returned v ∧ (own_Q_rnn Z x0 h0 n0) v U'.heap L ∧ FrameEnd U o U' L ({ frames := 0, cells := 0, slots := 0, locals := 0 } : Room).cells ({ frames := 0, cells := 0, slots := 0, locals := 0 } : Room).slots) := by
  refine MetFree.of_bodySF (plainFor_of_name own_pn3) hisR ?_
  intro p e s m args below meth c s₁ Bd hml0 hP hK
  obtain ⟨rfl, hZ, hh⟩ := hP
  have hx := Bd.exec
  have hby := Bd.bytes
  have hlk : meth.locks = false := BodyLoose.notSynchronized Bd
  have hml : c.maxLocals = 1 := hml0
  have hown : s.vm.findClass "java/util/Objects" = some m.cls := findClass_of_methodNamed Bd.named
  have hnm := (name_of_methodNamed Bd.named Bd.method).1
  have X0 : Stand p l e ({ frames := 0, cells := 0, slots := 0, locals := 0 } : Room) s m #[(.ref x0)] below meth c s₁ [] 0 0 := Stand.of_body Bd
  have e0 : s₁.heap = h0 := by rw [← hh, Bd.state]; rfl
  have N0 := Fr.nil n0
  show own_Fin p e below (s₁.setTop (entryFrame m #[(.ref x0)] 1)) (own_End s ((own_Q_rnn Z x0 h0 n0)) ({ frames := 0, cells := 0, slots := 0, locals := 0 } : Room).cells ({ frames := 0, cells := 0, slots := 0, locals := 0 } : Room).slots)
  refine own_st (S' := s₁.setTop (mkF m 0 #[.val (.ref x0)] [])) (fun _ k => castTop (own_ef_rnn m x0) k) ?_
  refine own_st (S' := s₁.setTop (mkF m 13 #[.val (.ref x0)] [(.ref x0)])) (fun _ k => XS.aloadN X0.here hx rfl (hb hby own_d_jdk_31_method_10_code_0) rfl rfl (XS.ifnonnullYes X0.here hx rfl (pc0 := 1) (pc' := 12) rfl (hb hby own_d_jdk_31_method_10_code_1) rfl (by decide) (by decide) (XS.aloadN X0.here hx rfl (hb hby own_d_jdk_31_method_10_code_12) rfl rfl k))) ?_
  refine own_ret X0 hx Bd.returns hlk rfl (Or.inr (Or.inr (Or.inr (Or.inr ⟨rfl, rfl, rfl⟩)))) (hb hby own_d_jdk_31_method_10_code_13) (by decide) (by decide) ?_
  rw [e0]
  exact ⟨rfl, N0, rfl⟩
def own_Q_rol0 (Z : State) (x0 r1 : Addr) (h0 : Heap) (n0 : Nat) (v : Option Value) (h : Heap) (L : List Loc) : Prop := v = none ∧ Fr n0 L ∧ Keep h0 h [x0] ∧ Fld Z h x0 "com/example/banyan/banyan/language/Role" "name" "Ljava/lang/String;" (.ref r1) ∧ Fld Z h x0 "com/example/banyan/banyan/language/Role" "inverse" "Z" (.int (0 : Int32))
theorem own_ef_rol0 (m : MethodId) (x0 : Addr) (r1 : Addr) : entryFrame m #[(.ref x0), (.ref r1), (.int (0 : Int32))] 3 = mkF m 0 #[.val (.ref x0), .val (.ref r1), .val (.int (0 : Int32))] [] := by first | (simp [entryFrame, mkF, argsToLocals, Value.category, maxLocals]; done) | rfl
set_option maxRecDepth 65536 in
set_option maxHeartbeats 40000000 in
theorem own_rm_rol0 (l : Launch) (Z : State) (a0 : Array Value) (hw : ∀ d ∈ tables_1, d.before a0 Z = true) (G1 : Int32) (S1 : Sta Z Z.heap "java/lang/String" "COMPACT_STRINGS" "Z" (.int G1)) (P1 : ¬ G1 = 0) (hCH : Jvm.Lit.constHeld Z "java/lang/String" 7) (hCW : Jvm.Lit.compactW.before a0 Z = true) (ws : List Jvm.Cond) (x0 r1 : Addr) (h0 : Heap) (n0 : Nat) (Z0 : n0 ≤ h0.size) (XO : Old Z n0 h0) (g0 : n0 ≤ x0) (E1 : Exa Z h0 x0 "com/example/banyan/banyan/language/Role") (F1 : Fld Z h0 x0 "com/example/banyan/banyan/language/Role" "name" "Ljava/lang/String;" .null) (F2 : Fld Z h0 x0 "com/example/banyan/banyan/language/Role" "inverse" "Z" (.int (0 : Int32))) :
    MetFree l (⟨"com/example/banyan/banyan/language/Role", "<init>", "(Ljava/lang/String;Z)V"⟩ : MethodName) (head1 (Jvm.Cond.code (⟨"com/example/banyan/banyan/language/Role", "<init>", "(Ljava/lang/String;Z)V"⟩ : MethodName) prog_6_method_1_code 3 (none) :: ws) ({ frames := 1, cells := 0, slots := 0, locals := 12 } : Room)) (fun a U => a = #[(.ref x0), (.ref r1), (.int (0 : Int32))] ∧ Z.Warmed39 U.vm ∧ U.heap = h0) (fun _ _ _ _ _ => True) (fun _ U o U' => ∃ v L, o = .returned v ∧ (own_Q_rol0 Z x0 r1 h0 n0) v U'.heap L ∧ FrameEnd U o U' L ({ frames := 1, cells := 0, slots := 0, locals := 12 } : Room).cells ({ frames := 1, cells := 0, slots := 0, locals := 12 } : Room).slots) := by
  refine MetFree.of_bodySF (plainFor_of_name own_pn4) hisR ?_
  intro p e s m args below meth c s₁ Bd hml0 hP hK
  obtain ⟨rfl, hZ, hh⟩ := hP
  have hx := Bd.exec
  have hby := Bd.bytes
  have hlk : meth.locks = false := BodyLoose.notSynchronized Bd
  have hml : c.maxLocals = 3 := hml0
  have hown : s.vm.findClass "com/example/banyan/banyan/language/Role" = some m.cls := findClass_of_methodNamed Bd.named
  have hnm := (name_of_methodNamed Bd.named Bd.method).1
  have X0 : Stand p l e ({ frames := 1, cells := 0, slots := 0, locals := 12 } : Room) s m #[(.ref x0), (.ref r1), (.int (0 : Int32))] below meth c s₁ [] 0 0 := Stand.of_body Bd
  have e0 : s₁.heap = h0 := by rw [← hh, Bd.state]; rfl
  have N0 := Fr.nil n0
  show own_Fin p e below (s₁.setTop (entryFrame m #[(.ref x0), (.ref r1), (.int (0 : Int32))] 3)) (own_End s ((own_Q_rol0 Z x0 r1 h0 n0)) ({ frames := 1, cells := 0, slots := 0, locals := 12 } : Room).cells ({ frames := 1, cells := 0, slots := 0, locals := 12 } : Room).slots)
  refine own_st (S' := s₁.setTop (mkF m 0 #[.val (.ref x0), .val (.ref r1), .val (.int (0 : Int32))] [])) (fun _ k => castTop (own_ef_rol0 m x0 r1) k) ?_
  refine own_st (S' := s₁.setTop (mkF m 1 #[.val (.ref x0), .val (.ref r1), .val (.int (0 : Int32))] [(.ref x0)])) (fun _ k => XS.aloadN X0.here hx rfl (hb hby own_d_prog_6_method_1_code_0) rfl rfl k) ?_
  obtain ⟨T101, X101, e101, st101⟩ := initO X0 hx hZ hown (hw _ own_w55) (hw _ own_w16) (hw _ own_w17) e0 (g := (mkF m 1 #[.val (.ref x0), .val (.ref r1), .val (.int (0 : Int32))] [(.ref x0)])) rfl (by rw [hml]; rfl) rfl (hb hby own_d_prog_6_method_1_code_1) (by decide) (W := 0) (by show 2 * 0 + _ ≤ _; exact Nat.le_of_eq rfl) (by decide)
  refine own_st (S' := T101.setTop (mkF m 4 #[.val (.ref x0), .val (.ref r1), .val (.int (0 : Int32))] [])) st101 ?_
  refine own_st (S' := T101.setTop (mkF m 6 #[.val (.ref x0), .val (.ref r1), .val (.int (0 : Int32))] [(.ref r1), (.ref x0)])) (fun _ k => XS.aloadN X101.here hx rfl (hb hby own_d_prog_6_method_1_code_4) rfl rfl (XS.aloadN X101.here hx rfl (hb hby own_d_prog_6_method_1_code_5) rfl rfl k)) ?_
  obtain ⟨T102, h102, X102, e102, W102, st102⟩ := putF X101 hx hZ hown (host := "") (Or.inl (hw _ own_w56)) Via.refl e101 F1 E1 (Or.inr ⟨(hw _ own_w57), rfl, hnm⟩) (hw _ own_w46) (ty := (.object "java/lang/String")) (by decide) rfl rfl (g := (mkF m 6 #[.val (.ref x0), .val (.ref r1), .val (.int (0 : Int32))] [(.ref r1), (.ref x0)])) rfl rfl (hb hby own_d_prog_6_method_1_code_6)
  have N102 := Fr.snoc X102 N0 g0
  refine own_st (S' := T102.setTop (mkF m 9 #[.val (.ref x0), .val (.ref r1), .val (.int (0 : Int32))] [])) st102 ?_
  refine own_st (S' := T102.setTop (mkF m 11 #[.val (.ref x0), .val (.ref r1), .val (.int (0 : Int32))] [(.int (0 : Int32)), (.ref x0)])) (fun _ k => XS.aloadN X102.here hx rfl (hb hby own_d_prog_6_method_1_code_9) rfl rfl (XS.iloadN X102.here hx rfl (hb hby own_d_prog_6_method_1_code_10) rfl k)) ?_
  have F103 : Fld Z h102 x0 "com/example/banyan/banyan/language/Role" "inverse" "Z" (.int (0 : Int32)) := (F2.other W102 (Or.inr (slot_ne (Or.inr (hw _ own_w59)) (Or.inr (hw _ own_w57)) (by decide) (t := .boolean) (t' := (.object "java/lang/String")) (by decide) (by decide))))
  have A104 : Exa Z h102 x0 "com/example/banyan/banyan/language/Role" := (E1.wr W102)
  obtain ⟨T105, h105, X105, e105, W105, st105⟩ := putF X102 hx hZ hown (host := "") (Or.inl (hw _ own_w58)) Via.refl e102 F103 A104 (Or.inr ⟨(hw _ own_w59), rfl, hnm⟩) (hw _ own_w46) (ty := .boolean) (by decide) rfl rfl (g := (mkF m 11 #[.val (.ref x0), .val (.ref r1), .val (.int (0 : Int32))] [(.int (0 : Int32)), (.ref x0)])) rfl rfl (hb hby own_d_prog_6_method_1_code_11)
  have N105 := Fr.snoc X105 N102 g0
  refine own_st (S' := T105.setTop (mkF m 14 #[.val (.ref x0), .val (.ref r1), .val (.int (0 : Int32))] [])) st105 ?_
  have F106 : Fld Z h105 x0 "com/example/banyan/banyan/language/Role" "name" "Ljava/lang/String;" (.ref r1) := ((F1.same W102).other W105 (Or.inr (slot_ne (Or.inr (hw _ own_w57)) (Or.inr (hw _ own_w59)) (by decide) (t := (.object "java/lang/String")) (t' := .boolean) (by decide) (by decide))))
  refine own_ret0 X105 hx Bd.returns hlk (hb hby own_d_prog_6_method_1_code_14) (by decide) (by decide) ?_
  rw [e105]
  exact ⟨rfl, N105, (((Keep.refl _ _).wr W102 (Or.inl (List.mem_of_getElem? (i := 0) rfl))).wr W105 (Or.inl (List.mem_of_getElem? (i := 0) rfl))), F106, (F103.same W105)⟩
def own_Q_rol1 (Z : State) (x0 r1 : Addr) (h0 : Heap) (n0 : Nat) (v : Option Value) (h : Heap) (L : List Loc) : Prop := v = none ∧ Fr n0 L ∧ Keep h0 h [x0] ∧ Fld Z h x0 "com/example/banyan/banyan/language/Role" "name" "Ljava/lang/String;" (.ref r1) ∧ Fld Z h x0 "com/example/banyan/banyan/language/Role" "inverse" "Z" (.int (1 : Int32))
theorem own_ef_rol1 (m : MethodId) (x0 : Addr) (r1 : Addr) : entryFrame m #[(.ref x0), (.ref r1), (.int (1 : Int32))] 3 = mkF m 0 #[.val (.ref x0), .val (.ref r1), .val (.int (1 : Int32))] [] := by first | (simp [entryFrame, mkF, argsToLocals, Value.category, maxLocals]; done) | rfl
set_option maxRecDepth 65536 in
set_option maxHeartbeats 40000000 in
theorem own_rm_rol1 (l : Launch) (Z : State) (a0 : Array Value) (hw : ∀ d ∈ tables_1, d.before a0 Z = true) (G1 : Int32) (S1 : Sta Z Z.heap "java/lang/String" "COMPACT_STRINGS" "Z" (.int G1)) (P1 : ¬ G1 = 0) (hCH : Jvm.Lit.constHeld Z "java/lang/String" 7) (hCW : Jvm.Lit.compactW.before a0 Z = true) (ws : List Jvm.Cond) (x0 r1 : Addr) (h0 : Heap) (n0 : Nat) (Z0 : n0 ≤ h0.size) (XO : Old Z n0 h0) (g0 : n0 ≤ x0) (E1 : Exa Z h0 x0 "com/example/banyan/banyan/language/Role") (F1 : Fld Z h0 x0 "com/example/banyan/banyan/language/Role" "name" "Ljava/lang/String;" .null) (F2 : Fld Z h0 x0 "com/example/banyan/banyan/language/Role" "inverse" "Z" (.int (0 : Int32))) :
    MetFree l (⟨"com/example/banyan/banyan/language/Role", "<init>", "(Ljava/lang/String;Z)V"⟩ : MethodName) (head1 (Jvm.Cond.code (⟨"com/example/banyan/banyan/language/Role", "<init>", "(Ljava/lang/String;Z)V"⟩ : MethodName) prog_6_method_1_code 3 (none) :: ws) ({ frames := 1, cells := 0, slots := 0, locals := 12 } : Room)) (fun a U => a = #[(.ref x0), (.ref r1), (.int (1 : Int32))] ∧ Z.Warmed39 U.vm ∧ U.heap = h0) (fun _ _ _ _ _ => True) (fun _ U o U' => ∃ v L, o = .returned v ∧ (own_Q_rol1 Z x0 r1 h0 n0) v U'.heap L ∧ FrameEnd U o U' L ({ frames := 1, cells := 0, slots := 0, locals := 12 } : Room).cells ({ frames := 1, cells := 0, slots := 0, locals := 12 } : Room).slots) := by
  refine MetFree.of_bodySF (plainFor_of_name own_pn4) hisR ?_
  intro p e s m args below meth c s₁ Bd hml0 hP hK
  obtain ⟨rfl, hZ, hh⟩ := hP
  have hx := Bd.exec
  have hby := Bd.bytes
  have hlk : meth.locks = false := BodyLoose.notSynchronized Bd
  have hml : c.maxLocals = 3 := hml0
  have hown : s.vm.findClass "com/example/banyan/banyan/language/Role" = some m.cls := findClass_of_methodNamed Bd.named
  have hnm := (name_of_methodNamed Bd.named Bd.method).1
  have X0 : Stand p l e ({ frames := 1, cells := 0, slots := 0, locals := 12 } : Room) s m #[(.ref x0), (.ref r1), (.int (1 : Int32))] below meth c s₁ [] 0 0 := Stand.of_body Bd
  have e0 : s₁.heap = h0 := by rw [← hh, Bd.state]; rfl
  have N0 := Fr.nil n0
  show own_Fin p e below (s₁.setTop (entryFrame m #[(.ref x0), (.ref r1), (.int (1 : Int32))] 3)) (own_End s ((own_Q_rol1 Z x0 r1 h0 n0)) ({ frames := 1, cells := 0, slots := 0, locals := 12 } : Room).cells ({ frames := 1, cells := 0, slots := 0, locals := 12 } : Room).slots)
  refine own_st (S' := s₁.setTop (mkF m 0 #[.val (.ref x0), .val (.ref r1), .val (.int (1 : Int32))] [])) (fun _ k => castTop (own_ef_rol1 m x0 r1) k) ?_
  refine own_st (S' := s₁.setTop (mkF m 1 #[.val (.ref x0), .val (.ref r1), .val (.int (1 : Int32))] [(.ref x0)])) (fun _ k => XS.aloadN X0.here hx rfl (hb hby own_d_prog_6_method_1_code_0) rfl rfl k) ?_
  obtain ⟨T101, X101, e101, st101⟩ := initO X0 hx hZ hown (hw _ own_w55) (hw _ own_w16) (hw _ own_w17) e0 (g := (mkF m 1 #[.val (.ref x0), .val (.ref r1), .val (.int (1 : Int32))] [(.ref x0)])) rfl (by rw [hml]; rfl) rfl (hb hby own_d_prog_6_method_1_code_1) (by decide) (W := 0) (by show 2 * 0 + _ ≤ _; exact Nat.le_of_eq rfl) (by decide)
  refine own_st (S' := T101.setTop (mkF m 4 #[.val (.ref x0), .val (.ref r1), .val (.int (1 : Int32))] [])) st101 ?_
  refine own_st (S' := T101.setTop (mkF m 6 #[.val (.ref x0), .val (.ref r1), .val (.int (1 : Int32))] [(.ref r1), (.ref x0)])) (fun _ k => XS.aloadN X101.here hx rfl (hb hby own_d_prog_6_method_1_code_4) rfl rfl (XS.aloadN X101.here hx rfl (hb hby own_d_prog_6_method_1_code_5) rfl rfl k)) ?_
  obtain ⟨T102, h102, X102, e102, W102, st102⟩ := putF X101 hx hZ hown (host := "") (Or.inl (hw _ own_w56)) Via.refl e101 F1 E1 (Or.inr ⟨(hw _ own_w57), rfl, hnm⟩) (hw _ own_w46) (ty := (.object "java/lang/String")) (by decide) rfl rfl (g := (mkF m 6 #[.val (.ref x0), .val (.ref r1), .val (.int (1 : Int32))] [(.ref r1), (.ref x0)])) rfl rfl (hb hby own_d_prog_6_method_1_code_6)
  have N102 := Fr.snoc X102 N0 g0
  refine own_st (S' := T102.setTop (mkF m 9 #[.val (.ref x0), .val (.ref r1), .val (.int (1 : Int32))] [])) st102 ?_
  refine own_st (S' := T102.setTop (mkF m 11 #[.val (.ref x0), .val (.ref r1), .val (.int (1 : Int32))] [(.int (1 : Int32)), (.ref x0)])) (fun _ k => XS.aloadN X102.here hx rfl (hb hby own_d_prog_6_method_1_code_9) rfl rfl (XS.iloadN X102.here hx rfl (hb hby own_d_prog_6_method_1_code_10) rfl k)) ?_
  have F103 : Fld Z h102 x0 "com/example/banyan/banyan/language/Role" "inverse" "Z" (.int (0 : Int32)) := (F2.other W102 (Or.inr (slot_ne (Or.inr (hw _ own_w59)) (Or.inr (hw _ own_w57)) (by decide) (t := .boolean) (t' := (.object "java/lang/String")) (by decide) (by decide))))
  have A104 : Exa Z h102 x0 "com/example/banyan/banyan/language/Role" := (E1.wr W102)
  obtain ⟨T105, h105, X105, e105, W105, st105⟩ := putF X102 hx hZ hown (host := "") (Or.inl (hw _ own_w58)) Via.refl e102 F103 A104 (Or.inr ⟨(hw _ own_w59), rfl, hnm⟩) (hw _ own_w46) (ty := .boolean) (by decide) rfl rfl (g := (mkF m 11 #[.val (.ref x0), .val (.ref r1), .val (.int (1 : Int32))] [(.int (1 : Int32)), (.ref x0)])) rfl rfl (hb hby own_d_prog_6_method_1_code_11)
  have N105 := Fr.snoc X105 N102 g0
  refine own_st (S' := T105.setTop (mkF m 14 #[.val (.ref x0), .val (.ref r1), .val (.int (1 : Int32))] [])) st105 ?_
  have F106 : Fld Z h105 x0 "com/example/banyan/banyan/language/Role" "name" "Ljava/lang/String;" (.ref r1) := ((F1.same W102).other W105 (Or.inr (slot_ne (Or.inr (hw _ own_w57)) (Or.inr (hw _ own_w59)) (by decide) (t := (.object "java/lang/String")) (t' := .boolean) (by decide) (by decide))))
  refine own_ret0 X105 hx Bd.returns hlk (hb hby own_d_prog_6_method_1_code_14) (by decide) (by decide) ?_
  rw [e105]
  exact ⟨rfl, N105, (((Keep.refl _ _).wr W102 (Or.inl (List.mem_of_getElem? (i := 0) rfl))).wr W105 (Or.inl (List.mem_of_getElem? (i := 0) rfl))), F106, (F103.same W105)⟩
def own_Q_named (Z : State) (y0 : Addr) (h0 : Heap) (n0 : Nat) (v : Option Value) (h : Heap) (L : List Loc) : Prop := ∃ r, v = some (.ref r) ∧ Fr n0 L ∧ Ext h0 h ∧ h0.size ≤ r ∧ Exa Z h r "com/example/banyan/banyan/language/Role" ∧ Fld Z h r "com/example/banyan/banyan/language/Role" "name" "Ljava/lang/String;" (.ref y0) ∧ Fld Z h r "com/example/banyan/banyan/language/Role" "inverse" "Z" (.int (0 : Int32))
theorem own_ef_named (m : MethodId) (y0 : Addr) : entryFrame m #[(.ref y0)] 1 = mkF m 0 #[.val (.ref y0)] [] := by first | (simp [entryFrame, mkF, argsToLocals, Value.category, maxLocals]; done) | rfl
set_option maxRecDepth 65536 in
set_option maxHeartbeats 40000000 in
theorem own_rm_named (l : Launch) (Z : State) (a0 : Array Value) (hw : ∀ d ∈ tables_1, d.before a0 Z = true) (G1 : Int32) (S1 : Sta Z Z.heap "java/lang/String" "COMPACT_STRINGS" "Z" (.int G1)) (P1 : ¬ G1 = 0) (hCH : Jvm.Lit.constHeld Z "java/lang/String" 7) (hCW : Jvm.Lit.compactW.before a0 Z = true) (ws : List Jvm.Cond) (y0 : Addr) (h0 : Heap) (n0 : Nat) (Z0 : n0 ≤ h0.size) (XO : Old Z n0 h0) (E1 : Exa Z h0 y0 "java/lang/String") :
    MetFree l (⟨"com/example/banyan/banyan/language/Role", "named", "(Ljava/lang/String;)Lcom/example/banyan/banyan/language/Role;"⟩ : MethodName) (head1 (Jvm.Cond.code (⟨"com/example/banyan/banyan/language/Role", "named", "(Ljava/lang/String;)Lcom/example/banyan/banyan/language/Role;"⟩ : MethodName) prog_6_method_2_code 1 (some (.object "com/example/banyan/banyan/language/Role")) :: ws) ({ frames := 2, cells := 1, slots := 2, locals := 27 } : Room)) (fun a U => a = #[(.ref y0)] ∧ Z.Warmed39 U.vm ∧ U.heap = h0) (fun _ _ _ _ _ => True) (fun _ U o U' => ∃ v L, o = .returned v ∧ (own_Q_named Z y0 h0 n0) v U'.heap L ∧ FrameEnd U o U' L ({ frames := 2, cells := 1, slots := 2, locals := 27 } : Room).cells ({ frames := 2, cells := 1, slots := 2, locals := 27 } : Room).slots) := by
  refine MetFree.of_bodySF (plainFor_of_name own_pn4) hisR ?_
  intro p e s m args below meth c s₁ Bd hml0 hP hK
  obtain ⟨rfl, hZ, hh⟩ := hP
  have hx := Bd.exec
  have hby := Bd.bytes
  have hlk : meth.locks = false := BodyLoose.notSynchronized Bd
  have hml : c.maxLocals = 1 := hml0
  have hown : s.vm.findClass "com/example/banyan/banyan/language/Role" = some m.cls := findClass_of_methodNamed Bd.named
  have hnm := (name_of_methodNamed Bd.named Bd.method).1
  have X0 : Stand p l e ({ frames := 2, cells := 1, slots := 2, locals := 27 } : Room) s m #[(.ref y0)] below meth c s₁ [] 0 0 := Stand.of_body Bd
  have e0 : s₁.heap = h0 := by rw [← hh, Bd.state]; rfl
  have N0 := Fr.nil n0
  show own_Fin p e below (s₁.setTop (entryFrame m #[(.ref y0)] 1)) (own_End s ((own_Q_named Z y0 h0 n0)) ({ frames := 2, cells := 1, slots := 2, locals := 27 } : Room).cells ({ frames := 2, cells := 1, slots := 2, locals := 27 } : Room).slots)
  refine own_st (S' := s₁.setTop (mkF m 0 #[.val (.ref y0)] [])) (fun _ k => castTop (own_ef_named m y0) k) ?_
  obtain ⟨T101, h101, X101, e101, E101, A101, D101, -, st101⟩ := newO X0 hx hZ hown (hw _ own_w45) (hw _ own_w46) (hw _ own_w43) e0 (g := (mkF m 0 #[.val (.ref y0)] [])) rfl (hb hby own_d_prog_6_method_2_code_0) (by decide) (by decide)
  obtain ⟨b101, g101⟩ : ∃ z, z = h0.size := ⟨_, rfl⟩
  rw [← g101] at A101 D101 st101
  refine own_st (S' := T101.setTop (mkF m 3 #[.val (.ref y0)] [(.ref b101)])) st101 ?_
  refine own_st (S' := T101.setTop (mkF m 5 #[.val (.ref y0)] [(.ref y0), (.ref b101), (.ref b101)])) (fun _ k => XS.dup X101.here hx rfl (hb hby own_d_prog_6_method_2_code_3) rfl rfl (XS.aloadN X101.here hx rfl (hb hby own_d_prog_6_method_2_code_4) rfl rfl k)) ?_
  have XO102 : Old Z n0 h101 := (XO.ext E101)
  obtain ⟨_, _, ⟨T103, L103, k103, n103⟩, -, X103, ⟨Lc103, hQ103, l103, y103, z103⟩, st103⟩ := Jvm.LawKit.callS X101 hx (y := (⟨"java/util/Objects", "requireNonNull", "(Ljava/lang/Object;)Ljava/lang/Object;"⟩ : MethodName)) hown (mvT hZ (hw _ own_w47)) (mvT hZ (hw _ own_w48)) (mvT hZ (hw _ own_w49)) (mvT hZ (hw _ own_w50)) (by decide) (backOf (W := 2) (own_rm_rnn l Z a0 hw G1 S1 P1 hCH hCW [] y0 h101 n0 (Nat.le_trans Z0 E101.1) XO102 ) hZ (hw _ own_w50) (hw _ own_w49) (by decide) (by decide)) (g := (mkF m 5 #[.val (.ref y0)] [(.ref y0), (.ref b101), (.ref b101)])) rfl (by rw [hml]; rfl) (argsL := [(.ref y0)]) (rest := [(.ref b101), (.ref b101)]) (lenOf own_pd6 rfl) rfl (by show 2 * 0 + _ ≤ _; exact Nat.le_of_eq rfl) (hb hby own_d_prog_6_method_2_code_5) (fun _ _ => ⟨rfl, e101, (by decide : 1 + 0 ≤ _), (by decide : 2 + 0 ≤ _)⟩)
  dsimp only [Pt.U, Pt.locs, Pt.cells, Pt.slots] at X103 l103 y103 z103 st103 hQ103
  subst l103 y103 z103
  obtain ⟨rfl, M103, e103⟩ := hQ103
  have N103 := Fr.app N0 M103
  refine own_st (S' := T103.setTop (mkF m 8 #[.val (.ref y0)] [(.ref y0), (.ref b101), (.ref b101)])) st103 ?_
  have A104 : Exa Z h101 y0 "java/lang/String" := (E1.ext E101)
  obtain ⟨T105, X105, e105, st105⟩ := castY X103 hx hZ hown (hw _ own_w51) e103 (Ins.self A104) (g := (mkF m 8 #[.val (.ref y0)] [(.ref y0), (.ref b101), (.ref b101)])) rfl rfl (hb hby own_d_prog_6_method_2_code_8)
  refine own_st (S' := T105.setTop (mkF m 11 #[.val (.ref y0)] [(.ref y0), (.ref b101), (.ref b101)])) st105 ?_
  refine own_st (S' := T105.setTop (mkF m 12 #[.val (.ref y0)] [(.int (0 : Int32)), (.ref y0), (.ref b101), (.ref b101)])) (fun _ k => XS.iconst X105.here hx rfl (hb hby own_d_prog_6_method_2_code_11) k) ?_
  obtain ⟨_, _, ⟨T106, L106, k106, n106⟩, -, X106, ⟨Lc106, hQ106, l106, y106, z106⟩, st106⟩ := X105.specialBack hx (y := (⟨"com/example/banyan/banyan/language/Role", "<init>", "(Ljava/lang/String;Z)V"⟩ : MethodName)) rfl hown (mvT hZ (hw _ own_w52)) (mvT hZ (hw _ own_w53)) (mvT hZ (hw _ own_w54)) (by decide) (backOf (W := 1) (own_rm_rol0 l Z a0 hw G1 S1 P1 hCH hCW [] b101 y0 h101 n0 (Nat.le_trans Z0 E101.1) XO102 (Nat.le_trans Z0 (Nat.le_of_eq g101.symm)) A101 (D101 (Or.inr (hw _ own_w57)) (ty := (.object "java/lang/String")) (by decide)) (D101 (Or.inr (hw _ own_w59)) (ty := .boolean) (by decide))) hZ (hw _ own_w54) (hw _ own_w43) (by decide) (by decide)) (g := (mkF m 12 #[.val (.ref y0)] [(.int (0 : Int32)), (.ref y0), (.ref b101), (.ref b101)])) rfl (by rw [hml]; rfl) (Steps.refl _) (a := b101) (argsL := [(.ref y0), (.int (0 : Int32))]) (rest := [(.ref b101)]) (lenOf own_pd7 rfl) rfl (by show 2 * 0 + _ ≤ _; exact Nat.le_of_eq rfl) (hb hby own_d_prog_6_method_2_code_12) (fun _ _ => ⟨rfl, e105, (by decide : 1 + 0 ≤ _), (by decide : 2 + 0 ≤ _)⟩)
  dsimp only [Pt.U, Pt.locs, Pt.cells, Pt.slots] at X106 l106 y106 z106 st106 hQ106
  subst l106 y106 z106
  obtain ⟨rfl, M106, K106, Fn106, Fi106⟩ := hQ106
  have N106 := Fr.app N103 M106
  obtain ⟨h106, e106⟩ : ∃ z, T106.heap = z := ⟨_, rfl⟩
  rw [e106] at K106 Fn106 Fi106
  refine own_tr (S' := T106.setTop (mkF m 15 #[.val (.ref y0)] [(.ref b101)])) st106 ?_
  have XE107 : Ext h0 h106 := (own_xk E101 K106 (allS (Nat.le_of_eq g101.symm) all0))
  have A108 : Exa Z h106 b101 "com/example/banyan/banyan/language/Role" := (A101.keep K106)
  refine own_ret X106 hx Bd.returns hlk rfl (Or.inr (Or.inr (Or.inr (Or.inr ⟨rfl, rfl, rfl⟩)))) (hb hby own_d_prog_6_method_2_code_15) (by decide) (by decide) ?_
  rw [e106]
  exact ⟨b101, rfl, N106, XE107, (Nat.le_of_eq g101.symm), A108, Fn106, Fi106⟩
def own_Q_inv (Z : State) (r1 : Addr) (h0 : Heap) (n0 : Nat) (v : Option Value) (h : Heap) (L : List Loc) : Prop := ∃ r, v = some (.ref r) ∧ Fr n0 L ∧ Ext h0 h ∧ h0.size ≤ r ∧ Exa Z h r "com/example/banyan/banyan/language/Role" ∧ Fld Z h r "com/example/banyan/banyan/language/Role" "name" "Ljava/lang/String;" (.ref r1) ∧ Fld Z h r "com/example/banyan/banyan/language/Role" "inverse" "Z" (.int (1 : Int32))
theorem own_ef_inv (m : MethodId) (x0 : Addr) : entryFrame m #[(.ref x0)] 1 = mkF m 0 #[.val (.ref x0)] [] := by first | (simp [entryFrame, mkF, argsToLocals, Value.category, maxLocals]; done) | rfl
set_option maxRecDepth 65536 in
set_option maxHeartbeats 40000000 in
theorem own_rm_inv (l : Launch) (Z : State) (a0 : Array Value) (hw : ∀ d ∈ tables_1, d.before a0 Z = true) (G1 : Int32) (S1 : Sta Z Z.heap "java/lang/String" "COMPACT_STRINGS" "Z" (.int G1)) (P1 : ¬ G1 = 0) (hCH : Jvm.Lit.constHeld Z "java/lang/String" 7) (hCW : Jvm.Lit.compactW.before a0 Z = true) (ws : List Jvm.Cond) (x0 r1 : Addr) (h0 : Heap) (n0 : Nat) (Z0 : n0 ≤ h0.size) (XO : Old Z n0 h0) (F1 : Fld Z h0 x0 "com/example/banyan/banyan/language/Role" "name" "Ljava/lang/String;" (.ref r1)) (F2 : Fld Z h0 x0 "com/example/banyan/banyan/language/Role" "inverse" "Z" (.int (0 : Int32))) :
    MetFree l (⟨"com/example/banyan/banyan/language/Role", "inverse", "()Lcom/example/banyan/banyan/language/Role;"⟩ : MethodName) (head1 (Jvm.Cond.code (⟨"com/example/banyan/banyan/language/Role", "inverse", "()Lcom/example/banyan/banyan/language/Role;"⟩ : MethodName) prog_6_method_5_code 1 (some (.object "com/example/banyan/banyan/language/Role")) :: ws) ({ frames := 2, cells := 1, slots := 2, locals := 27 } : Room)) (fun a U => a = #[(.ref x0)] ∧ Z.Warmed39 U.vm ∧ U.heap = h0) (fun _ _ _ _ _ => True) (fun _ U o U' => ∃ v L, o = .returned v ∧ (own_Q_inv Z r1 h0 n0) v U'.heap L ∧ FrameEnd U o U' L ({ frames := 2, cells := 1, slots := 2, locals := 27 } : Room).cells ({ frames := 2, cells := 1, slots := 2, locals := 27 } : Room).slots) := by
  refine MetFree.of_bodySF (plainFor_of_name own_pn4) hisR ?_
  intro p e s m args below meth c s₁ Bd hml0 hP hK
  obtain ⟨rfl, hZ, hh⟩ := hP
  have hx := Bd.exec
  have hby := Bd.bytes
  have hlk : meth.locks = false := BodyLoose.notSynchronized Bd
  have hml : c.maxLocals = 1 := hml0
  have hown : s.vm.findClass "com/example/banyan/banyan/language/Role" = some m.cls := findClass_of_methodNamed Bd.named
  have hnm := (name_of_methodNamed Bd.named Bd.method).1
  have X0 : Stand p l e ({ frames := 2, cells := 1, slots := 2, locals := 27 } : Room) s m #[(.ref x0)] below meth c s₁ [] 0 0 := Stand.of_body Bd
  have e0 : s₁.heap = h0 := by rw [← hh, Bd.state]; rfl
  have N0 := Fr.nil n0
  show own_Fin p e below (s₁.setTop (entryFrame m #[(.ref x0)] 1)) (own_End s ((own_Q_inv Z r1 h0 n0)) ({ frames := 2, cells := 1, slots := 2, locals := 27 } : Room).cells ({ frames := 2, cells := 1, slots := 2, locals := 27 } : Room).slots)
  refine own_st (S' := s₁.setTop (mkF m 0 #[.val (.ref x0)] [])) (fun _ k => castTop (own_ef_inv m x0) k) ?_
  obtain ⟨T101, h101, X101, e101, E101, A101, D101, -, st101⟩ := newO X0 hx hZ hown (hw _ own_w45) (hw _ own_w46) (hw _ own_w43) e0 (g := (mkF m 0 #[.val (.ref x0)] [])) rfl (hb hby own_d_prog_6_method_5_code_0) (by decide) (by decide)
  obtain ⟨b101, g101⟩ : ∃ z, z = h0.size := ⟨_, rfl⟩
  rw [← g101] at A101 D101 st101
  refine own_st (S' := T101.setTop (mkF m 3 #[.val (.ref x0)] [(.ref b101)])) st101 ?_
  refine own_st (S' := T101.setTop (mkF m 5 #[.val (.ref x0)] [(.ref x0), (.ref b101), (.ref b101)])) (fun _ k => XS.dup X101.here hx rfl (hb hby own_d_prog_6_method_5_code_3) rfl rfl (XS.aloadN X101.here hx rfl (hb hby own_d_prog_6_method_5_code_4) rfl rfl k)) ?_
  have F102 : Fld Z h101 x0 "com/example/banyan/banyan/language/Role" "name" "Ljava/lang/String;" (.ref r1) := (F1.ext E101)
  obtain ⟨T103, X103, e103, st103⟩ := getF X101 hx hZ hown (host := "") (Or.inl (hw _ own_w56)) Via.refl e101 F102 (g := (mkF m 5 #[.val (.ref x0)] [(.ref x0), (.ref b101), (.ref b101)])) rfl rfl (hb hby own_d_prog_6_method_5_code_5)
  refine own_st (S' := T103.setTop (mkF m 8 #[.val (.ref x0)] [(.ref r1), (.ref b101), (.ref b101)])) st103 ?_
  refine own_st (S' := T103.setTop (mkF m 9 #[.val (.ref x0)] [(.ref x0), (.ref r1), (.ref b101), (.ref b101)])) (fun _ k => XS.aloadN X103.here hx rfl (hb hby own_d_prog_6_method_5_code_8) rfl rfl k) ?_
  have F104 : Fld Z h101 x0 "com/example/banyan/banyan/language/Role" "inverse" "Z" (.int (0 : Int32)) := (F2.ext E101)
  obtain ⟨T105, X105, e105, st105⟩ := getF X103 hx hZ hown (host := "") (Or.inl (hw _ own_w58)) Via.refl e103 F104 (g := (mkF m 9 #[.val (.ref x0)] [(.ref x0), (.ref r1), (.ref b101), (.ref b101)])) rfl rfl (hb hby own_d_prog_6_method_5_code_9)
  refine own_st (S' := T105.setTop (mkF m 12 #[.val (.ref x0)] [(.int (0 : Int32)), (.ref r1), (.ref b101), (.ref b101)])) st105 ?_
  refine own_st (S' := T105.setTop (mkF m 20 #[.val (.ref x0)] [(.int (1 : Int32)), (.ref r1), (.ref b101), (.ref b101)])) (fun _ k => XS.ifNo X105.here hx rfl (hb hby own_d_prog_6_method_5_code_12) rfl (by decide) (XS.iconst X105.here hx rfl (hb hby own_d_prog_6_method_5_code_15) (XS.goto X105.here hx rfl (pc0 := 16) (pc' := 20) rfl (hb hby own_d_prog_6_method_5_code_16) (by decide) (by decide) k))) ?_
  have XO106 : Old Z n0 h101 := (XO.ext E101)
  obtain ⟨_, _, ⟨T107, L107, k107, n107⟩, -, X107, ⟨Lc107, hQ107, l107, y107, z107⟩, st107⟩ := X105.specialBack hx (y := (⟨"com/example/banyan/banyan/language/Role", "<init>", "(Ljava/lang/String;Z)V"⟩ : MethodName)) rfl hown (mvT hZ (hw _ own_w52)) (mvT hZ (hw _ own_w53)) (mvT hZ (hw _ own_w54)) (by decide) (backOf (W := 1) (own_rm_rol1 l Z a0 hw G1 S1 P1 hCH hCW [] b101 r1 h101 n0 (Nat.le_trans Z0 E101.1) XO106 (Nat.le_trans Z0 (Nat.le_of_eq g101.symm)) A101 (D101 (Or.inr (hw _ own_w57)) (ty := (.object "java/lang/String")) (by decide)) (D101 (Or.inr (hw _ own_w59)) (ty := .boolean) (by decide))) hZ (hw _ own_w54) (hw _ own_w43) (by decide) (by decide)) (g := (mkF m 20 #[.val (.ref x0)] [(.int (1 : Int32)), (.ref r1), (.ref b101), (.ref b101)])) rfl (by rw [hml]; rfl) (Steps.refl _) (a := b101) (argsL := [(.ref r1), (.int (1 : Int32))]) (rest := [(.ref b101)]) (lenOf own_pd7 rfl) rfl (by show 2 * 0 + _ ≤ _; exact Nat.le_of_eq rfl) (hb hby own_d_prog_6_method_5_code_20) (fun _ _ => ⟨rfl, e105, (by decide : 1 + 0 ≤ _), (by decide : 2 + 0 ≤ _)⟩)
  dsimp only [Pt.U, Pt.locs, Pt.cells, Pt.slots] at X107 l107 y107 z107 st107 hQ107
  subst l107 y107 z107
  obtain ⟨rfl, M107, K107, Fn107, Fi107⟩ := hQ107
  have N107 := Fr.app N0 M107
  obtain ⟨h107, e107⟩ : ∃ z, T107.heap = z := ⟨_, rfl⟩
  rw [e107] at K107 Fn107 Fi107
  refine own_tr (S' := T107.setTop (mkF m 23 #[.val (.ref x0)] [(.ref b101)])) st107 ?_
  have XE108 : Ext h0 h107 := (own_xk E101 K107 (allS (Nat.le_of_eq g101.symm) all0))
  have A109 : Exa Z h107 b101 "com/example/banyan/banyan/language/Role" := (A101.keep K107)
  refine own_ret X107 hx Bd.returns hlk rfl (Or.inr (Or.inr (Or.inr (Or.inr ⟨rfl, rfl, rfl⟩)))) (hb hby own_d_prog_6_method_5_code_23) (by decide) (by decide) ?_
  rw [e107]
  exact ⟨b101, rfl, N107, XE108, (Nat.le_of_eq g101.symm), A109, Fn107, Fi107⟩
def own_Q_name (Z : State) (r1 : Addr) (h0 : Heap) (n0 : Nat) (v : Option Value) (h : Heap) (L : List Loc) : Prop := v = some (.ref r1) ∧ Fr n0 L ∧ h = h0
theorem own_ef_name (m : MethodId) (x0 : Addr) : entryFrame m #[(.ref x0)] 1 = mkF m 0 #[.val (.ref x0)] [] := by first | (simp [entryFrame, mkF, argsToLocals, Value.category, maxLocals]; done) | rfl
set_option maxRecDepth 65536 in
set_option maxHeartbeats 40000000 in
theorem own_rm_name (l : Launch) (Z : State) (a0 : Array Value) (hw : ∀ d ∈ tables_1, d.before a0 Z = true) (G1 : Int32) (S1 : Sta Z Z.heap "java/lang/String" "COMPACT_STRINGS" "Z" (.int G1)) (P1 : ¬ G1 = 0) (hCH : Jvm.Lit.constHeld Z "java/lang/String" 7) (hCW : Jvm.Lit.compactW.before a0 Z = true) (ws : List Jvm.Cond) (x0 r1 : Addr) (h0 : Heap) (n0 : Nat) (Z0 : n0 ≤ h0.size) (XO : Old Z n0 h0) (F1 : Fld Z h0 x0 "com/example/banyan/banyan/language/Role" "name" "Ljava/lang/String;" (.ref r1)) :
    MetFree l (⟨"com/example/banyan/banyan/language/Role", "name", "()Ljava/lang/String;"⟩ : MethodName) (head1 (Jvm.Cond.code (⟨"com/example/banyan/banyan/language/Role", "name", "()Ljava/lang/String;"⟩ : MethodName) prog_6_method_3_code 1 (some (.object "java/lang/String")) :: ws) ({ frames := 0, cells := 0, slots := 0, locals := 0 } : Room)) (fun a U => a = #[(.ref x0)] ∧ Z.Warmed39 U.vm ∧ U.heap = h0) (fun _ _ _ _ _ => True) (fun _ U o U' => ∃ v L, o = .returned v ∧ (own_Q_name Z r1 h0 n0) v U'.heap L ∧ FrameEnd U o U' L ({ frames := 0, cells := 0, slots := 0, locals := 0 } : Room).cells ({ frames := 0, cells := 0, slots := 0, locals := 0 } : Room).slots) := by
  refine MetFree.of_bodySF (plainFor_of_name own_pn4) hisR ?_
  intro p e s m args below meth c s₁ Bd hml0 hP hK
  obtain ⟨rfl, hZ, hh⟩ := hP
  have hx := Bd.exec
  have hby := Bd.bytes
  have hlk : meth.locks = false := BodyLoose.notSynchronized Bd
  have hml : c.maxLocals = 1 := hml0
  have hown : s.vm.findClass "com/example/banyan/banyan/language/Role" = some m.cls := findClass_of_methodNamed Bd.named
  have hnm := (name_of_methodNamed Bd.named Bd.method).1
  have X0 : Stand p l e ({ frames := 0, cells := 0, slots := 0, locals := 0 } : Room) s m #[(.ref x0)] below meth c s₁ [] 0 0 := Stand.of_body Bd
  have e0 : s₁.heap = h0 := by rw [← hh, Bd.state]; rfl
  have N0 := Fr.nil n0
  show own_Fin p e below (s₁.setTop (entryFrame m #[(.ref x0)] 1)) (own_End s ((own_Q_name Z r1 h0 n0)) ({ frames := 0, cells := 0, slots := 0, locals := 0 } : Room).cells ({ frames := 0, cells := 0, slots := 0, locals := 0 } : Room).slots)
  refine own_st (S' := s₁.setTop (mkF m 0 #[.val (.ref x0)] [])) (fun _ k => castTop (own_ef_name m x0) k) ?_
  refine own_st (S' := s₁.setTop (mkF m 1 #[.val (.ref x0)] [(.ref x0)])) (fun _ k => XS.aloadN X0.here hx rfl (hb hby own_d_prog_6_method_3_code_0) rfl rfl k) ?_
  obtain ⟨T101, X101, e101, st101⟩ := getF X0 hx hZ hown (host := "") (Or.inl (hw _ own_w56)) Via.refl e0 F1 (g := (mkF m 1 #[.val (.ref x0)] [(.ref x0)])) rfl rfl (hb hby own_d_prog_6_method_3_code_1)
  refine own_st (S' := T101.setTop (mkF m 4 #[.val (.ref x0)] [(.ref r1)])) st101 ?_
  refine own_ret X101 hx Bd.returns hlk rfl (Or.inr (Or.inr (Or.inr (Or.inr ⟨rfl, rfl, rfl⟩)))) (hb hby own_d_prog_6_method_3_code_4) (by decide) (by decide) ?_
  rw [e101]
  exact ⟨rfl, N0, rfl⟩
def own_Q_isi0 (Z : State) (h0 : Heap) (n0 : Nat) (v : Option Value) (h : Heap) (L : List Loc) : Prop := v = some (.int 0) ∧ Fr n0 L ∧ h = h0
theorem own_ef_isi0 (m : MethodId) (x0 : Addr) : entryFrame m #[(.ref x0)] 1 = mkF m 0 #[.val (.ref x0)] [] := by first | (simp [entryFrame, mkF, argsToLocals, Value.category, maxLocals]; done) | rfl
set_option maxRecDepth 65536 in
set_option maxHeartbeats 40000000 in
theorem own_rm_isi0 (l : Launch) (Z : State) (a0 : Array Value) (hw : ∀ d ∈ tables_1, d.before a0 Z = true) (G1 : Int32) (S1 : Sta Z Z.heap "java/lang/String" "COMPACT_STRINGS" "Z" (.int G1)) (P1 : ¬ G1 = 0) (hCH : Jvm.Lit.constHeld Z "java/lang/String" 7) (hCW : Jvm.Lit.compactW.before a0 Z = true) (ws : List Jvm.Cond) (x0 : Addr) (h0 : Heap) (n0 : Nat) (Z0 : n0 ≤ h0.size) (XO : Old Z n0 h0) (F2 : Fld Z h0 x0 "com/example/banyan/banyan/language/Role" "inverse" "Z" (.int (0 : Int32))) :
    MetFree l (⟨"com/example/banyan/banyan/language/Role", "isInverse", "()Z"⟩ : MethodName) (head1 (Jvm.Cond.code (⟨"com/example/banyan/banyan/language/Role", "isInverse", "()Z"⟩ : MethodName) prog_6_method_4_code 1 (some .boolean) :: ws) ({ frames := 0, cells := 0, slots := 0, locals := 0 } : Room)) (fun a U => a = #[(.ref x0)] ∧ Z.Warmed39 U.vm ∧ U.heap = h0) (fun _ _ _ _ _ => True) (fun _ U o U' => ∃ v L, o = .returned v ∧ (own_Q_isi0 Z h0 n0) v U'.heap L ∧ FrameEnd U o U' L ({ frames := 0, cells := 0, slots := 0, locals := 0 } : Room).cells ({ frames := 0, cells := 0, slots := 0, locals := 0 } : Room).slots) := by
  refine MetFree.of_bodySF (plainFor_of_name own_pn4) hisR ?_
  intro p e s m args below meth c s₁ Bd hml0 hP hK
  obtain ⟨rfl, hZ, hh⟩ := hP
  have hx := Bd.exec
  have hby := Bd.bytes
  have hlk : meth.locks = false := BodyLoose.notSynchronized Bd
  have hml : c.maxLocals = 1 := hml0
  have hown : s.vm.findClass "com/example/banyan/banyan/language/Role" = some m.cls := findClass_of_methodNamed Bd.named
  have hnm := (name_of_methodNamed Bd.named Bd.method).1
  have X0 : Stand p l e ({ frames := 0, cells := 0, slots := 0, locals := 0 } : Room) s m #[(.ref x0)] below meth c s₁ [] 0 0 := Stand.of_body Bd
  have e0 : s₁.heap = h0 := by rw [← hh, Bd.state]; rfl
  have N0 := Fr.nil n0
  show own_Fin p e below (s₁.setTop (entryFrame m #[(.ref x0)] 1)) (own_End s ((own_Q_isi0 Z h0 n0)) ({ frames := 0, cells := 0, slots := 0, locals := 0 } : Room).cells ({ frames := 0, cells := 0, slots := 0, locals := 0 } : Room).slots)
  refine own_st (S' := s₁.setTop (mkF m 0 #[.val (.ref x0)] [])) (fun _ k => castTop (own_ef_isi0 m x0) k) ?_
  refine own_st (S' := s₁.setTop (mkF m 1 #[.val (.ref x0)] [(.ref x0)])) (fun _ k => XS.aloadN X0.here hx rfl (hb hby own_d_prog_6_method_4_code_0) rfl rfl k) ?_
  obtain ⟨T101, X101, e101, st101⟩ := getF X0 hx hZ hown (host := "") (Or.inl (hw _ own_w58)) Via.refl e0 F2 (g := (mkF m 1 #[.val (.ref x0)] [(.ref x0)])) rfl rfl (hb hby own_d_prog_6_method_4_code_1)
  refine own_st (S' := T101.setTop (mkF m 4 #[.val (.ref x0)] [(.int (0 : Int32))])) st101 ?_
  refine own_ret X101 hx Bd.returns hlk rfl (Or.inl ⟨rfl, (by simp), _, rfl⟩) (hb hby own_d_prog_6_method_4_code_4) (by decide) (by decide) ?_
  rw [e101]
  exact ⟨rfl, N0, rfl⟩
def own_Q_isi1 (Z : State) (h0 : Heap) (n0 : Nat) (v : Option Value) (h : Heap) (L : List Loc) : Prop := v = some (.int 1) ∧ Fr n0 L ∧ h = h0
theorem own_ef_isi1 (m : MethodId) (x0 : Addr) : entryFrame m #[(.ref x0)] 1 = mkF m 0 #[.val (.ref x0)] [] := by first | (simp [entryFrame, mkF, argsToLocals, Value.category, maxLocals]; done) | rfl
set_option maxRecDepth 65536 in
set_option maxHeartbeats 40000000 in
theorem own_rm_isi1 (l : Launch) (Z : State) (a0 : Array Value) (hw : ∀ d ∈ tables_1, d.before a0 Z = true) (G1 : Int32) (S1 : Sta Z Z.heap "java/lang/String" "COMPACT_STRINGS" "Z" (.int G1)) (P1 : ¬ G1 = 0) (hCH : Jvm.Lit.constHeld Z "java/lang/String" 7) (hCW : Jvm.Lit.compactW.before a0 Z = true) (ws : List Jvm.Cond) (x0 : Addr) (h0 : Heap) (n0 : Nat) (Z0 : n0 ≤ h0.size) (XO : Old Z n0 h0) (F2 : Fld Z h0 x0 "com/example/banyan/banyan/language/Role" "inverse" "Z" (.int (1 : Int32))) :
    MetFree l (⟨"com/example/banyan/banyan/language/Role", "isInverse", "()Z"⟩ : MethodName) (head1 (Jvm.Cond.code (⟨"com/example/banyan/banyan/language/Role", "isInverse", "()Z"⟩ : MethodName) prog_6_method_4_code 1 (some .boolean) :: ws) ({ frames := 0, cells := 0, slots := 0, locals := 0 } : Room)) (fun a U => a = #[(.ref x0)] ∧ Z.Warmed39 U.vm ∧ U.heap = h0) (fun _ _ _ _ _ => True) (fun _ U o U' => ∃ v L, o = .returned v ∧ (own_Q_isi1 Z h0 n0) v U'.heap L ∧ FrameEnd U o U' L ({ frames := 0, cells := 0, slots := 0, locals := 0 } : Room).cells ({ frames := 0, cells := 0, slots := 0, locals := 0 } : Room).slots) := by
  refine MetFree.of_bodySF (plainFor_of_name own_pn4) hisR ?_
  intro p e s m args below meth c s₁ Bd hml0 hP hK
  obtain ⟨rfl, hZ, hh⟩ := hP
  have hx := Bd.exec
  have hby := Bd.bytes
  have hlk : meth.locks = false := BodyLoose.notSynchronized Bd
  have hml : c.maxLocals = 1 := hml0
  have hown : s.vm.findClass "com/example/banyan/banyan/language/Role" = some m.cls := findClass_of_methodNamed Bd.named
  have hnm := (name_of_methodNamed Bd.named Bd.method).1
  have X0 : Stand p l e ({ frames := 0, cells := 0, slots := 0, locals := 0 } : Room) s m #[(.ref x0)] below meth c s₁ [] 0 0 := Stand.of_body Bd
  have e0 : s₁.heap = h0 := by rw [← hh, Bd.state]; rfl
  have N0 := Fr.nil n0
  show own_Fin p e below (s₁.setTop (entryFrame m #[(.ref x0)] 1)) (own_End s ((own_Q_isi1 Z h0 n0)) ({ frames := 0, cells := 0, slots := 0, locals := 0 } : Room).cells ({ frames := 0, cells := 0, slots := 0, locals := 0 } : Room).slots)
  refine own_st (S' := s₁.setTop (mkF m 0 #[.val (.ref x0)] [])) (fun _ k => castTop (own_ef_isi1 m x0) k) ?_
  refine own_st (S' := s₁.setTop (mkF m 1 #[.val (.ref x0)] [(.ref x0)])) (fun _ k => XS.aloadN X0.here hx rfl (hb hby own_d_prog_6_method_4_code_0) rfl rfl k) ?_
  obtain ⟨T101, X101, e101, st101⟩ := getF X0 hx hZ hown (host := "") (Or.inl (hw _ own_w58)) Via.refl e0 F2 (g := (mkF m 1 #[.val (.ref x0)] [(.ref x0)])) rfl rfl (hb hby own_d_prog_6_method_4_code_1)
  refine own_st (S' := T101.setTop (mkF m 4 #[.val (.ref x0)] [(.int (1 : Int32))])) st101 ?_
  refine own_ret X101 hx Bd.returns hlk rfl (Or.inl ⟨rfl, (by simp), _, rfl⟩) (hb hby own_d_prog_6_method_4_code_4) (by decide) (by decide) ?_
  rw [e101]
  exact ⟨rfl, N0, rfl⟩
def own_Q_eqr (Z : State) (cs ds : List Int32) (h0 : Heap) (n0 : Nat) (v : Option Value) (h : Heap) (L : List Loc) : Prop := ((v = some (.int 1) ∧ cs = ds) ∨ (v = some (.int 0) ∧ ¬ cs = ds)) ∧ Fr n0 L ∧ h = h0
theorem own_ef_eqr (m : MethodId) (x0 : Addr) (y0 : Addr) : entryFrame m #[(.ref x0), (.ref y0)] 3 = mkF m 0 #[.val (.ref x0), .val (.ref y0), .unset] [] := by first | (simp [entryFrame, mkF, argsToLocals, Value.category, maxLocals]; done) | rfl
set_option maxRecDepth 65536 in
set_option maxHeartbeats 40000000 in
theorem own_rm_eqr (l : Launch) (Z : State) (a0 : Array Value) (hw : ∀ d ∈ tables_1, d.before a0 Z = true) (G1 : Int32) (S1 : Sta Z Z.heap "java/lang/String" "COMPACT_STRINGS" "Z" (.int G1)) (P1 : ¬ G1 = 0) (hCH : Jvm.Lit.constHeld Z "java/lang/String" 7) (hCW : Jvm.Lit.compactW.before a0 Z = true) (ws : List Jvm.Cond) (x0 y0 r1 r2 : Addr) (cs ds : List Int32) (h0 : Heap) (n0 : Nat) (Z0 : n0 ≤ h0.size) (XO : Old Z n0 h0) (F1 : Fld Z h0 x0 "com/example/banyan/banyan/language/Role" "name" "Ljava/lang/String;" (.ref r1)) (F2 : Fld Z h0 x0 "com/example/banyan/banyan/language/Role" "inverse" "Z" (.int (0 : Int32))) (E3 : Exa Z h0 y0 "com/example/banyan/banyan/language/Role") (F3 : Fld Z h0 y0 "com/example/banyan/banyan/language/Role" "name" "Ljava/lang/String;" (.ref r2)) (F4 : Fld Z h0 y0 "com/example/banyan/banyan/language/Role" "inverse" "Z" (.int (0 : Int32))) (Y1 : own_Str Z h0 r1 cs) (Y2 : own_Str Z h0 r2 ds) :
    MetFree l (⟨"com/example/banyan/banyan/language/Role", "equals", "(Ljava/lang/Object;)Z"⟩ : MethodName) (head1 (Jvm.Cond.code (⟨"com/example/banyan/banyan/language/Role", "equals", "(Ljava/lang/Object;)Z"⟩ : MethodName) prog_6_method_6_code 3 (some .boolean) :: ws) ({ frames := 2, cells := 0, slots := 0, locals := 28 } : Room)) (fun a U => a = #[(.ref x0), (.ref y0)] ∧ Z.Warmed39 U.vm ∧ U.heap = h0) (fun _ _ _ _ _ => True) (fun _ U o U' => ∃ v L, o = .returned v ∧ (own_Q_eqr Z cs ds h0 n0) v U'.heap L ∧ FrameEnd U o U' L ({ frames := 2, cells := 0, slots := 0, locals := 28 } : Room).cells ({ frames := 2, cells := 0, slots := 0, locals := 28 } : Room).slots) := by
  refine MetFree.of_bodySF (plainFor_of_name own_pn4) hisR ?_
  intro p e s m args below meth c s₁ Bd hml0 hP hK
  obtain ⟨rfl, hZ, hh⟩ := hP
  have hx := Bd.exec
  have hby := Bd.bytes
  have hlk : meth.locks = false := BodyLoose.notSynchronized Bd
  have hml : c.maxLocals = 3 := hml0
  have hown : s.vm.findClass "com/example/banyan/banyan/language/Role" = some m.cls := findClass_of_methodNamed Bd.named
  have hnm := (name_of_methodNamed Bd.named Bd.method).1
  have X0 : Stand p l e ({ frames := 2, cells := 0, slots := 0, locals := 28 } : Room) s m #[(.ref x0), (.ref y0)] below meth c s₁ [] 0 0 := Stand.of_body Bd
  have e0 : s₁.heap = h0 := by rw [← hh, Bd.state]; rfl
  have N0 := Fr.nil n0
  show own_Fin p e below (s₁.setTop (entryFrame m #[(.ref x0), (.ref y0)] 3)) (own_End s ((own_Q_eqr Z cs ds h0 n0)) ({ frames := 2, cells := 0, slots := 0, locals := 28 } : Room).cells ({ frames := 2, cells := 0, slots := 0, locals := 28 } : Room).slots)
  refine own_st (S' := s₁.setTop (mkF m 0 #[.val (.ref x0), .val (.ref y0), .unset] [])) (fun _ k => castTop (own_ef_eqr m x0 y0) k) ?_
  refine own_st (S' := s₁.setTop (mkF m 1 #[.val (.ref x0), .val (.ref y0), .unset] [(.ref y0)])) (fun _ k => XS.aloadN X0.here hx rfl (hb hby own_d_prog_6_method_6_code_0) rfl rfl k) ?_
  obtain ⟨T101, X101, e101, st101⟩ := instY X0 hx hZ hown (hw _ own_w45) e0 (Ins.self E3) (g := (mkF m 1 #[.val (.ref x0), .val (.ref y0), .unset] [(.ref y0)])) rfl rfl (hb hby own_d_prog_6_method_6_code_1)
  refine own_st (S' := T101.setTop (mkF m 4 #[.val (.ref x0), .val (.ref y0), .unset] [(.int (1 : Int32))])) st101 ?_
  refine own_st (S' := T101.setTop (mkF m 10 #[.val (.ref x0), .val (.ref y0), .unset] [(.ref y0)])) (fun _ k => XS.ifYes X101.here hx rfl (pc0 := 4) (pc' := 9) rfl (hb hby own_d_prog_6_method_6_code_4) rfl (by decide) (by decide) (by decide) (XS.aloadN X101.here hx rfl (hb hby own_d_prog_6_method_6_code_9) rfl rfl k)) ?_
  obtain ⟨T102, X102, e102, st102⟩ := castY X101 hx hZ hown (hw _ own_w45) e101 (Ins.self E3) (g := (mkF m 10 #[.val (.ref x0), .val (.ref y0), .unset] [(.ref y0)])) rfl rfl (hb hby own_d_prog_6_method_6_code_10)
  refine own_st (S' := T102.setTop (mkF m 13 #[.val (.ref x0), .val (.ref y0), .unset] [(.ref y0)])) st102 ?_
  refine own_st (S' := T102.setTop (mkF m 15 #[.val (.ref x0), .val (.ref y0), .val (.ref y0)] [(.ref x0)])) (fun _ k => XS.astoreN X102.here hx rfl (hb hby own_d_prog_6_method_6_code_13) rfl rfl (l' := #[.val (.ref x0), .val (.ref y0), .val (.ref y0)]) rfl (XS.aloadN X102.here hx rfl (hb hby own_d_prog_6_method_6_code_14) rfl rfl k)) ?_
  obtain ⟨T103, X103, e103, st103⟩ := getF X102 hx hZ hown (host := "") (Or.inl (hw _ own_w58)) Via.refl e102 F2 (g := (mkF m 15 #[.val (.ref x0), .val (.ref y0), .val (.ref y0)] [(.ref x0)])) rfl rfl (hb hby own_d_prog_6_method_6_code_15)
  refine own_st (S' := T103.setTop (mkF m 18 #[.val (.ref x0), .val (.ref y0), .val (.ref y0)] [(.int (0 : Int32))])) st103 ?_
  refine own_st (S' := T103.setTop (mkF m 19 #[.val (.ref x0), .val (.ref y0), .val (.ref y0)] [(.ref y0), (.int (0 : Int32))])) (fun _ k => XS.aloadN X103.here hx rfl (hb hby own_d_prog_6_method_6_code_18) rfl rfl k) ?_
  obtain ⟨T104, X104, e104, st104⟩ := getF X103 hx hZ hown (host := "") (Or.inl (hw _ own_w58)) Via.refl e103 F4 (g := (mkF m 19 #[.val (.ref x0), .val (.ref y0), .val (.ref y0)] [(.ref y0), (.int (0 : Int32))])) rfl rfl (hb hby own_d_prog_6_method_6_code_19)
  refine own_st (S' := T104.setTop (mkF m 22 #[.val (.ref x0), .val (.ref y0), .val (.ref y0)] [(.int (0 : Int32)), (.int (0 : Int32))])) st104 ?_
  refine own_st (S' := T104.setTop (mkF m 26 #[.val (.ref x0), .val (.ref y0), .val (.ref y0)] [(.ref x0)])) (fun _ k => XS.icmpNo X104.here hx rfl (hb hby own_d_prog_6_method_6_code_22) rfl (by decide) (XS.aloadN X104.here hx rfl (hb hby own_d_prog_6_method_6_code_25) rfl rfl k)) ?_
  obtain ⟨T105, X105, e105, st105⟩ := getF X104 hx hZ hown (host := "") (Or.inl (hw _ own_w56)) Via.refl e104 F1 (g := (mkF m 26 #[.val (.ref x0), .val (.ref y0), .val (.ref y0)] [(.ref x0)])) rfl rfl (hb hby own_d_prog_6_method_6_code_26)
  refine own_st (S' := T105.setTop (mkF m 29 #[.val (.ref x0), .val (.ref y0), .val (.ref y0)] [(.ref r1)])) st105 ?_
  refine own_st (S' := T105.setTop (mkF m 30 #[.val (.ref x0), .val (.ref y0), .val (.ref y0)] [(.ref y0), (.ref r1)])) (fun _ k => XS.aloadN X105.here hx rfl (hb hby own_d_prog_6_method_6_code_29) rfl rfl k) ?_
  obtain ⟨T106, X106, e106, st106⟩ := getF X105 hx hZ hown (host := "") (Or.inl (hw _ own_w56)) Via.refl e105 F3 (g := (mkF m 30 #[.val (.ref x0), .val (.ref y0), .val (.ref y0)] [(.ref y0), (.ref r1)])) rfl rfl (hb hby own_d_prog_6_method_6_code_30)
  refine own_st (S' := T106.setTop (mkF m 33 #[.val (.ref x0), .val (.ref y0), .val (.ref y0)] [(.ref r2), (.ref r1)])) st106 ?_
  have S107 : Sta Z h0 "java/lang/String" "COMPACT_STRINGS" "Z" (.int G1) := (S1.ext XO.2)
  obtain ⟨cq108, kq108, q108a, q108b, q108c⟩ := isOf hZ e106 Y1.exa
  obtain ⟨_, _, ⟨T108, L108, k108, n108⟩, -, X108, ⟨Lc108, hQ108, l108, y108, z108⟩, st108⟩ := X106.virtualBack hx (y := (⟨"java/lang/String", "equals", "(Ljava/lang/Object;)Z"⟩ : MethodName)) (z := (⟨"java/lang/String", "equals", "(Ljava/lang/Object;)Z"⟩ : MethodName)) hown (mvT hZ (hw _ own_w81)) (mvT hZ (hw _ own_w66)) (notFace_of_selects (args := #[]) (mvT hZ (hw _ own_w68))) (mvT hZ (hw _ own_w68)) (mvT hZ (hw _ own_w67)) (by decide) (own_eqB (W := 0) hZ hw Y1 Y2 S107 P1 (by decide) (by decide)) q108a q108c (g := (mkF m 33 #[.val (.ref x0), .val (.ref y0), .val (.ref y0)] [(.ref r2), (.ref r1)])) rfl (by rw [hml]; rfl) (Steps.refl _) (argsL := [(.ref r2)]) (rest := []) (lenOf own_pd8 rfl) rfl (by show 2 * 0 + _ ≤ _; exact Nat.le_of_eq rfl) (hb hby own_d_prog_6_method_6_code_33) (fun _ _ => ⟨rfl, e106, (by decide : 0 + 0 ≤ _), (by decide : 0 + 0 ≤ _)⟩)
  dsimp only [Pt.U, Pt.locs, Pt.cells, Pt.slots] at X108 l108 y108 z108 st108 hQ108
  subst l108 y108 z108
  obtain ⟨hQ108, rfl, e108⟩ := hQ108
  try rw [List.append_nil] at X108
  rcases hQ108 with ⟨rfl, hc108⟩ | ⟨rfl, hc108⟩
  · refine own_tr (S' := T108.setTop (mkF m 36 #[.val (.ref x0), .val (.ref y0), .val (.ref y0)] [(.int (1 : Int32))])) st108 ?_
    refine own_st (S' := T108.setTop (mkF m 44 #[.val (.ref x0), .val (.ref y0), .val (.ref y0)] [(.int (1 : Int32))])) (fun _ k => XS.ifNo X108.here hx rfl (hb hby own_d_prog_6_method_6_code_36) rfl (by decide) (XS.iconst X108.here hx rfl (hb hby own_d_prog_6_method_6_code_39) (XS.goto X108.here hx rfl (pc0 := 40) (pc' := 44) rfl (hb hby own_d_prog_6_method_6_code_40) (by decide) (by decide) k))) ?_
    refine own_ret X108 hx Bd.returns hlk rfl (Or.inl ⟨rfl, (by simp), _, rfl⟩) (hb hby own_d_prog_6_method_6_code_44) (by decide) (by decide) ?_
    rw [e108]
    exact ⟨Or.inl ⟨rfl, hc108⟩, N0, rfl⟩
  · refine own_tr (S' := T108.setTop (mkF m 36 #[.val (.ref x0), .val (.ref y0), .val (.ref y0)] [(.int (0 : Int32))])) st108 ?_
    refine own_st (S' := T108.setTop (mkF m 44 #[.val (.ref x0), .val (.ref y0), .val (.ref y0)] [(.int (0 : Int32))])) (fun _ k => XS.ifYes X108.here hx rfl (pc0 := 36) (pc' := 43) rfl (hb hby own_d_prog_6_method_6_code_36) rfl (by decide) (by decide) (by decide) (XS.iconst X108.here hx rfl (hb hby own_d_prog_6_method_6_code_43) k)) ?_
    refine own_ret X108 hx Bd.returns hlk rfl (Or.inl ⟨rfl, (by simp), _, rfl⟩) (hb hby own_d_prog_6_method_6_code_44) (by decide) (by decide) ?_
    rw [e108]
    exact ⟨Or.inr ⟨rfl, hc108⟩, N0, rfl⟩
def own_Q_eqi (Z : State) (h0 : Heap) (n0 : Nat) (v : Option Value) (h : Heap) (L : List Loc) : Prop := v = some (.int 0) ∧ Fr n0 L ∧ h = h0
theorem own_ef_eqi (m : MethodId) (x0 : Addr) (y0 : Addr) : entryFrame m #[(.ref x0), (.ref y0)] 3 = mkF m 0 #[.val (.ref x0), .val (.ref y0), .unset] [] := by first | (simp [entryFrame, mkF, argsToLocals, Value.category, maxLocals]; done) | rfl
set_option maxRecDepth 65536 in
set_option maxHeartbeats 40000000 in
theorem own_rm_eqi (l : Launch) (Z : State) (a0 : Array Value) (hw : ∀ d ∈ tables_1, d.before a0 Z = true) (G1 : Int32) (S1 : Sta Z Z.heap "java/lang/String" "COMPACT_STRINGS" "Z" (.int G1)) (P1 : ¬ G1 = 0) (hCH : Jvm.Lit.constHeld Z "java/lang/String" 7) (hCW : Jvm.Lit.compactW.before a0 Z = true) (ws : List Jvm.Cond) (x0 y0 r1 r2 : Addr) (h0 : Heap) (n0 : Nat) (Z0 : n0 ≤ h0.size) (XO : Old Z n0 h0) (F1 : Fld Z h0 x0 "com/example/banyan/banyan/language/Role" "name" "Ljava/lang/String;" (.ref r1)) (F2 : Fld Z h0 x0 "com/example/banyan/banyan/language/Role" "inverse" "Z" (.int (1 : Int32))) (E3 : Exa Z h0 y0 "com/example/banyan/banyan/language/Role") (F3 : Fld Z h0 y0 "com/example/banyan/banyan/language/Role" "name" "Ljava/lang/String;" (.ref r2)) (F4 : Fld Z h0 y0 "com/example/banyan/banyan/language/Role" "inverse" "Z" (.int (0 : Int32))) :
    MetFree l (⟨"com/example/banyan/banyan/language/Role", "equals", "(Ljava/lang/Object;)Z"⟩ : MethodName) (head1 (Jvm.Cond.code (⟨"com/example/banyan/banyan/language/Role", "equals", "(Ljava/lang/Object;)Z"⟩ : MethodName) prog_6_method_6_code 3 (some .boolean) :: ws) ({ frames := 0, cells := 0, slots := 0, locals := 0 } : Room)) (fun a U => a = #[(.ref x0), (.ref y0)] ∧ Z.Warmed39 U.vm ∧ U.heap = h0) (fun _ _ _ _ _ => True) (fun _ U o U' => ∃ v L, o = .returned v ∧ (own_Q_eqi Z h0 n0) v U'.heap L ∧ FrameEnd U o U' L ({ frames := 0, cells := 0, slots := 0, locals := 0 } : Room).cells ({ frames := 0, cells := 0, slots := 0, locals := 0 } : Room).slots) := by
  refine MetFree.of_bodySF (plainFor_of_name own_pn4) hisR ?_
  intro p e s m args below meth c s₁ Bd hml0 hP hK
  obtain ⟨rfl, hZ, hh⟩ := hP
  have hx := Bd.exec
  have hby := Bd.bytes
  have hlk : meth.locks = false := BodyLoose.notSynchronized Bd
  have hml : c.maxLocals = 3 := hml0
  have hown : s.vm.findClass "com/example/banyan/banyan/language/Role" = some m.cls := findClass_of_methodNamed Bd.named
  have hnm := (name_of_methodNamed Bd.named Bd.method).1
  have X0 : Stand p l e ({ frames := 0, cells := 0, slots := 0, locals := 0 } : Room) s m #[(.ref x0), (.ref y0)] below meth c s₁ [] 0 0 := Stand.of_body Bd
  have e0 : s₁.heap = h0 := by rw [← hh, Bd.state]; rfl
  have N0 := Fr.nil n0
  show own_Fin p e below (s₁.setTop (entryFrame m #[(.ref x0), (.ref y0)] 3)) (own_End s ((own_Q_eqi Z h0 n0)) ({ frames := 0, cells := 0, slots := 0, locals := 0 } : Room).cells ({ frames := 0, cells := 0, slots := 0, locals := 0 } : Room).slots)
  refine own_st (S' := s₁.setTop (mkF m 0 #[.val (.ref x0), .val (.ref y0), .unset] [])) (fun _ k => castTop (own_ef_eqi m x0 y0) k) ?_
  refine own_st (S' := s₁.setTop (mkF m 1 #[.val (.ref x0), .val (.ref y0), .unset] [(.ref y0)])) (fun _ k => XS.aloadN X0.here hx rfl (hb hby own_d_prog_6_method_6_code_0) rfl rfl k) ?_
  obtain ⟨T101, X101, e101, st101⟩ := instY X0 hx hZ hown (hw _ own_w45) e0 (Ins.self E3) (g := (mkF m 1 #[.val (.ref x0), .val (.ref y0), .unset] [(.ref y0)])) rfl rfl (hb hby own_d_prog_6_method_6_code_1)
  refine own_st (S' := T101.setTop (mkF m 4 #[.val (.ref x0), .val (.ref y0), .unset] [(.int (1 : Int32))])) st101 ?_
  refine own_st (S' := T101.setTop (mkF m 10 #[.val (.ref x0), .val (.ref y0), .unset] [(.ref y0)])) (fun _ k => XS.ifYes X101.here hx rfl (pc0 := 4) (pc' := 9) rfl (hb hby own_d_prog_6_method_6_code_4) rfl (by decide) (by decide) (by decide) (XS.aloadN X101.here hx rfl (hb hby own_d_prog_6_method_6_code_9) rfl rfl k)) ?_
  obtain ⟨T102, X102, e102, st102⟩ := castY X101 hx hZ hown (hw _ own_w45) e101 (Ins.self E3) (g := (mkF m 10 #[.val (.ref x0), .val (.ref y0), .unset] [(.ref y0)])) rfl rfl (hb hby own_d_prog_6_method_6_code_10)
  refine own_st (S' := T102.setTop (mkF m 13 #[.val (.ref x0), .val (.ref y0), .unset] [(.ref y0)])) st102 ?_
  refine own_st (S' := T102.setTop (mkF m 15 #[.val (.ref x0), .val (.ref y0), .val (.ref y0)] [(.ref x0)])) (fun _ k => XS.astoreN X102.here hx rfl (hb hby own_d_prog_6_method_6_code_13) rfl rfl (l' := #[.val (.ref x0), .val (.ref y0), .val (.ref y0)]) rfl (XS.aloadN X102.here hx rfl (hb hby own_d_prog_6_method_6_code_14) rfl rfl k)) ?_
  obtain ⟨T103, X103, e103, st103⟩ := getF X102 hx hZ hown (host := "") (Or.inl (hw _ own_w58)) Via.refl e102 F2 (g := (mkF m 15 #[.val (.ref x0), .val (.ref y0), .val (.ref y0)] [(.ref x0)])) rfl rfl (hb hby own_d_prog_6_method_6_code_15)
  refine own_st (S' := T103.setTop (mkF m 18 #[.val (.ref x0), .val (.ref y0), .val (.ref y0)] [(.int (1 : Int32))])) st103 ?_
  refine own_st (S' := T103.setTop (mkF m 19 #[.val (.ref x0), .val (.ref y0), .val (.ref y0)] [(.ref y0), (.int (1 : Int32))])) (fun _ k => XS.aloadN X103.here hx rfl (hb hby own_d_prog_6_method_6_code_18) rfl rfl k) ?_
  obtain ⟨T104, X104, e104, st104⟩ := getF X103 hx hZ hown (host := "") (Or.inl (hw _ own_w58)) Via.refl e103 F4 (g := (mkF m 19 #[.val (.ref x0), .val (.ref y0), .val (.ref y0)] [(.ref y0), (.int (1 : Int32))])) rfl rfl (hb hby own_d_prog_6_method_6_code_19)
  refine own_st (S' := T104.setTop (mkF m 22 #[.val (.ref x0), .val (.ref y0), .val (.ref y0)] [(.int (0 : Int32)), (.int (1 : Int32))])) st104 ?_
  refine own_st (S' := T104.setTop (mkF m 44 #[.val (.ref x0), .val (.ref y0), .val (.ref y0)] [(.int (0 : Int32))])) (fun _ k => XS.icmpYes X104.here hx rfl (pc0 := 22) (pc' := 43) rfl (hb hby own_d_prog_6_method_6_code_22) rfl (by decide) (by decide) (by decide) (XS.iconst X104.here hx rfl (hb hby own_d_prog_6_method_6_code_43) k)) ?_
  refine own_ret X104 hx Bd.returns hlk rfl (Or.inl ⟨rfl, (by simp), _, rfl⟩) (hb hby own_d_prog_6_method_6_code_44) (by decide) (by decide) ?_
  rw [e104]
  exact ⟨rfl, N0, rfl⟩
def own_Q_law (Z : State) (h0 : Heap) (n0 : Nat) (v : Option Value) (h : Heap) (vm : Vm) (L : List Loc) : Prop := v = some (.int 1) ∧ Fr n0 L
theorem own_ef_law (m : MethodId) (p0 : Int32) (p1 : Int32) (p2 : Int32) (p3 : Int32) (p4 : Int32) (p5 : Int32) : entryFrame m #[(.int p0), (.int p1), (.int p2), (.int p3), (.int p4), (.int p5)] maxLocals = mkF m 0 #[.val (.int p0), .val (.int p1), .val (.int p2), .val (.int p3), .val (.int p4), .val (.int p5), .unset, .unset, .unset, .unset, .unset, .unset, .unset, .unset, .unset, .unset, .unset] [] := by first | (simp [entryFrame, mkF, argsToLocals, Value.category, maxLocals]; done) | rfl
set_option maxRecDepth 65536 in
set_option maxHeartbeats 40000000 in
theorem own_rm_law (l : Launch) (Z : State) (a0 : Array Value) (hw : ∀ d ∈ tables_1, d.before a0 Z = true) (G1 : Int32) (S1 : Sta Z Z.heap "java/lang/String" "COMPACT_STRINGS" "Z" (.int G1)) (P1 : ¬ G1 = 0) (hCH : Jvm.Lit.constHeld Z "java/lang/String" 7) (hCW : Jvm.Lit.compactW.before a0 Z = true) (ws : List Jvm.Cond) (p0 p1 p2 p3 p4 p5 : Int32) (h0 : Heap) (n0 : Nat) (Z0 : n0 ≤ h0.size) (XO : Old Z n0 h0) :
    MetFree l x (head1 (Jvm.Cond.code x code maxLocals ret :: ws) (room_1 : Room)) (fun a U => a = #[(.int p0), (.int p1), (.int p2), (.int p3), (.int p4), (.int p5)] ∧ Z.Warmed39 U.vm ∧ U.heap = h0 ∧ own_LS Z U.vm h0) (fun _ _ _ _ _ => True) (fun _ U o U' => ∃ v L, o = .returned v ∧ (own_Q_law Z h0 n0) v U'.heap U'.vm L ∧ ReturnedEndW U o U' L 32 1152) := by
  refine MetFree.of_bodySF (plainFor_of_name own_pn2) hisR ?_
  intro p e s m args below meth c s₁ Bd hml0 hP hK
  obtain ⟨rfl, hZ, hh, hLS⟩ := hP
  have hx := Bd.exec
  have hby := Bd.bytes
  have hlk : meth.locks = false := BodyLoose.notSynchronized Bd
  have hml : c.maxLocals = 17 := hml0
  have hown : s.vm.findClass "com/example/banyan/banyan/language/RoleNamedPinLaw" = some m.cls := findClass_of_methodNamed Bd.named
  have hnm := (name_of_methodNamed Bd.named Bd.method).1
  have X0 : Stand p l e (room_1 : Room) (s.setVm s.vm) m #[(.int p0), (.int p1), (.int p2), (.int p3), (.int p4), (.int p5)] below meth c s₁ [] 0 0 := Stand.of_body Bd
  have hZ : Z.Warmed39 (s.setVm s.vm).vm := hZ
  have hown : (s.setVm s.vm).vm.findClass "com/example/banyan/banyan/language/RoleNamedPinLaw" = some m.cls := hown
  have sn0 : s.Since s.vm 0 := (State.WarmedH.refl s).since 0
  have e0 : s₁.heap = h0 := by rw [← hh, Bd.state]; rfl
  have N0 := Fr.nil n0
  show own_Fin p e below (s₁.setTop (entryFrame m #[(.int p0), (.int p1), (.int p2), (.int p3), (.int p4), (.int p5)] maxLocals)) (own_EndW s ((own_Q_law Z h0 n0)) 32 1152)
  refine own_st (S' := s₁.setTop (mkF m 0 #[.val (.int p0), .val (.int p1), .val (.int p2), .val (.int p3), .val (.int p4), .val (.int p5), .unset, .unset, .unset, .unset, .unset, .unset, .unset, .unset, .unset, .unset, .unset] [])) (fun _ k => castTop (own_ef_law m p0 p1 p2 p3 p4 p5) k) ?_
  refine own_st (S' := s₁.setTop (mkF m 5 #[.val (.int p0), .val (.int p1), .val (.int p2), .val (.int p3), .val (.int p4), .val (.int p5), .val (.int (p0 &&& (3 : Int32))), .unset, .unset, .unset, .unset, .unset, .unset, .unset, .unset, .unset, .unset] [])) (fun _ k => XS.iloadN X0.here hx rfl (hb hby at_0) rfl (XS.iconst X0.here hx rfl (hb hby at_1) (XS.iand X0.here hx rfl (hb hby at_2) rfl (XS.istore X0.here hx rfl (hb hby at_3) rfl (l' := #[.val (.int p0), .val (.int p1), .val (.int p2), .val (.int p3), .val (.int p4), .val (.int p5), .val (.int (p0 &&& (3 : Int32))), .unset, .unset, .unset, .unset, .unset, .unset, .unset, .unset, .unset, .unset]) rfl k)))) ?_
  generalize gi101 : (p0 &&& (3 : Int32)) = i101
  refine own_st (S' := s₁.setTop (mkF m 11 #[.val (.int p0), .val (.int p1), .val (.int p2), .val (.int p3), .val (.int p4), .val (.int p5), .val (.int i101), .unset, .unset, .unset, .unset, .unset, .unset, .unset, .unset, .unset, .unset] [(.int ((p1 &&& (255 : Int32)).toUInt32.toUInt16.toUInt32.toInt32))])) (fun _ k => XS.iloadN X0.here hx rfl (hb hby at_5) rfl (XS.sipush X0.here hx rfl (hb hby at_6) (XS.iand X0.here hx rfl (hb hby at_9) rfl (XS.i2c X0.here hx rfl (hb hby at_10) rfl k)))) ?_
  refine own_st (S' := s₁.setTop (mkF m 13 #[.val (.int p0), .val (.int p1), .val (.int p2), .val (.int p3), .val (.int p4), .val (.int p5), .val (.int i101), .val (.int ((p1 &&& (255 : Int32)).toUInt32.toUInt16.toUInt32.toInt32)), .unset, .unset, .unset, .unset, .unset, .unset, .unset, .unset, .unset] [])) (fun _ k => XS.istore X0.here hx rfl (hb hby at_11) rfl (l' := #[.val (.int p0), .val (.int p1), .val (.int p2), .val (.int p3), .val (.int p4), .val (.int p5), .val (.int i101), .val (.int ((p1 &&& (255 : Int32)).toUInt32.toUInt16.toUInt32.toInt32)), .unset, .unset, .unset, .unset, .unset, .unset, .unset, .unset, .unset]) rfl k) ?_
  generalize gi102 : ((p1 &&& (255 : Int32)).toUInt32.toUInt16.toUInt32.toInt32) = i102
  refine own_st (S' := s₁.setTop (mkF m 19 #[.val (.int p0), .val (.int p1), .val (.int p2), .val (.int p3), .val (.int p4), .val (.int p5), .val (.int i101), .val (.int i102), .unset, .unset, .unset, .unset, .unset, .unset, .unset, .unset, .unset] [(.int ((p2 &&& (255 : Int32)).toUInt32.toUInt16.toUInt32.toInt32))])) (fun _ k => XS.iloadN X0.here hx rfl (hb hby at_13) rfl (XS.sipush X0.here hx rfl (hb hby at_14) (XS.iand X0.here hx rfl (hb hby at_17) rfl (XS.i2c X0.here hx rfl (hb hby at_18) rfl k)))) ?_
  refine own_st (S' := s₁.setTop (mkF m 21 #[.val (.int p0), .val (.int p1), .val (.int p2), .val (.int p3), .val (.int p4), .val (.int p5), .val (.int i101), .val (.int i102), .val (.int ((p2 &&& (255 : Int32)).toUInt32.toUInt16.toUInt32.toInt32)), .unset, .unset, .unset, .unset, .unset, .unset, .unset, .unset] [])) (fun _ k => XS.istore X0.here hx rfl (hb hby at_19) rfl (l' := #[.val (.int p0), .val (.int p1), .val (.int p2), .val (.int p3), .val (.int p4), .val (.int p5), .val (.int i101), .val (.int i102), .val (.int ((p2 &&& (255 : Int32)).toUInt32.toUInt16.toUInt32.toInt32)), .unset, .unset, .unset, .unset, .unset, .unset, .unset, .unset]) rfl k) ?_
  generalize gi103 : ((p2 &&& (255 : Int32)).toUInt32.toUInt16.toUInt32.toInt32) = i103
  refine own_st (S' := s₁.setTop (mkF m 27 #[.val (.int p0), .val (.int p1), .val (.int p2), .val (.int p3), .val (.int p4), .val (.int p5), .val (.int i101), .val (.int i102), .val (.int i103), .unset, .unset, .unset, .unset, .unset, .unset, .unset, .unset] [(.int ((p3 &&& (255 : Int32)).toUInt32.toUInt16.toUInt32.toInt32))])) (fun _ k => XS.iloadN X0.here hx rfl (hb hby at_21) rfl (XS.sipush X0.here hx rfl (hb hby at_22) (XS.iand X0.here hx rfl (hb hby at_25) rfl (XS.i2c X0.here hx rfl (hb hby at_26) rfl k)))) ?_
  refine own_st (S' := s₁.setTop (mkF m 29 #[.val (.int p0), .val (.int p1), .val (.int p2), .val (.int p3), .val (.int p4), .val (.int p5), .val (.int i101), .val (.int i102), .val (.int i103), .val (.int ((p3 &&& (255 : Int32)).toUInt32.toUInt16.toUInt32.toInt32)), .unset, .unset, .unset, .unset, .unset, .unset, .unset] [])) (fun _ k => XS.istore X0.here hx rfl (hb hby at_27) rfl (l' := #[.val (.int p0), .val (.int p1), .val (.int p2), .val (.int p3), .val (.int p4), .val (.int p5), .val (.int i101), .val (.int i102), .val (.int i103), .val (.int ((p3 &&& (255 : Int32)).toUInt32.toUInt16.toUInt32.toInt32)), .unset, .unset, .unset, .unset, .unset, .unset, .unset]) rfl k) ?_
  generalize gi104 : ((p3 &&& (255 : Int32)).toUInt32.toUInt16.toUInt32.toInt32) = i104
  refine own_st (S' := s₁.setTop (mkF m 37 #[.val (.int p0), .val (.int p1), .val (.int p2), .val (.int p3), .val (.int p4), .val (.int p5), .val (.int i101), .val (.int i102), .val (.int i103), .val (.int i104), .unset, .unset, .unset, .unset, .unset, .unset, .unset] [(.int i104), (.int i103), (.int i102), (.int i101)])) (fun _ k => XS.iload X0.here hx rfl (hb hby at_29) rfl (XS.iload X0.here hx rfl (hb hby at_31) rfl (XS.iload X0.here hx rfl (hb hby at_33) rfl (XS.iload X0.here hx rfl (hb hby at_35) rfl k)))) ?_
  obtain ⟨_, _, ⟨T105, L105, k105, n105⟩, -, X105, sn105, sg105, ⟨Lc105, hQ105, l105, y105, z105⟩, st105⟩ := callSS X0 hx (y := (⟨"com/example/banyan/banyan/language/RoleNamedPinLaw", "str", "(ICCC)Ljava/lang/String;"⟩ : MethodName)) hown (mvT hZ (hw _ own_w0)) (mvT hZ (hw _ own_w1)) (mvT hZ (hw _ own_w2)) (mvT hZ (hw _ own_w3)) (by decide) (own_backS (W := 0) (own_rm_str l Z a0 hw G1 S1 P1 hCH hCW [] i101 i102 i103 i104 h0 n0 (Nat.le_trans Z0 (Nat.le_refl _)) XO (own_chr gi102) (own_chr gi103) (own_chr gi104)) hZ (hw _ own_w3) (hw _ own_w2) (by decide) (by decide)) (g := (mkF m 37 #[.val (.int p0), .val (.int p1), .val (.int p2), .val (.int p3), .val (.int p4), .val (.int p5), .val (.int i101), .val (.int i102), .val (.int i103), .val (.int i104), .unset, .unset, .unset, .unset, .unset, .unset, .unset] [(.int i104), (.int i103), (.int i102), (.int i101)])) rfl (by rw [hml]; rfl) (argsL := [(.int i101), (.int i102), (.int i103), (.int i104)]) (rest := []) (lenOf own_pd9 rfl) rfl (by show 2 * 0 + _ ≤ _; exact Nat.le_of_eq rfl) (hb hby at_37) (fun _ hv => ⟨rfl, e0, (by decide : 0 + 4 ≤ _), (by decide : 0 + 10 ≤ _), hLS.warm hv⟩)
  dsimp only [Pt.U, Pt.locs, Pt.cells, Pt.slots] at X105 l105 y105 z105 st105 hQ105 sn105 sg105
  subst l105 y105 z105
  obtain ⟨XX105, ss105, hz105, ho105⟩ := rebS sn0 (n1 := s₁.heap.size) (by rw [e0]; exact Nat.le_trans (Nat.zero_le _) (Nat.le_refl _)) X105 sn105 sg105 hZ hown
  obtain ⟨r105, rfl, M105, E105, g105, Y105, LS105⟩ := hQ105
  have N105 := Fr.app N0 M105
  obtain ⟨h105, e105⟩ : ∃ z, T105.heap = z := ⟨_, rfl⟩
  rw [e105] at E105 LS105 ss105 Y105
  refine own_tr (S' := T105.setTop (mkF m 40 #[.val (.int p0), .val (.int p1), .val (.int p2), .val (.int p3), .val (.int p4), .val (.int p5), .val (.int i101), .val (.int i102), .val (.int i103), .val (.int i104), .unset, .unset, .unset, .unset, .unset, .unset, .unset] [(.ref r105)])) st105 ?_
  refine own_st (S' := T105.setTop (mkF m 46 #[.val (.int p0), .val (.int p1), .val (.int p2), .val (.int p3), .val (.int p4), .val (.int p5), .val (.int i101), .val (.int i102), .val (.int i103), .val (.int i104), .val (.ref r105), .unset, .unset, .unset, .unset, .unset, .unset] [(.int ((p5.toUInt32 >>> ((1 : Int32) &&& 31).toUInt32).toInt32))])) (fun _ k => XS.astore XX105.here hx rfl (hb hby at_40) rfl rfl (l' := #[.val (.int p0), .val (.int p1), .val (.int p2), .val (.int p3), .val (.int p4), .val (.int p5), .val (.int i101), .val (.int i102), .val (.int i103), .val (.int i104), .val (.ref r105), .unset, .unset, .unset, .unset, .unset, .unset]) rfl (XS.iload XX105.here hx rfl (hb hby at_42) rfl (XS.iconst XX105.here hx rfl (hb hby at_44) (XS.iushr XX105.here hx rfl (hb hby at_45) rfl k)))) ?_
  refine own_st (S' := T105.setTop (mkF m 50 #[.val (.int p0), .val (.int p1), .val (.int p2), .val (.int p3), .val (.int p4), .val (.int p5), .val (.int i101), .val (.int i102), .val (.int i103), .val (.int i104), .val (.ref r105), .val (.int (((p5.toUInt32 >>> ((1 : Int32) &&& 31).toUInt32).toInt32) &&& (3 : Int32))), .unset, .unset, .unset, .unset, .unset] [])) (fun _ k => XS.iconst XX105.here hx rfl (hb hby at_46) (XS.iand XX105.here hx rfl (hb hby at_47) rfl (XS.istore XX105.here hx rfl (hb hby at_48) rfl (l' := #[.val (.int p0), .val (.int p1), .val (.int p2), .val (.int p3), .val (.int p4), .val (.int p5), .val (.int i101), .val (.int i102), .val (.int i103), .val (.int i104), .val (.ref r105), .val (.int (((p5.toUInt32 >>> ((1 : Int32) &&& 31).toUInt32).toInt32) &&& (3 : Int32))), .unset, .unset, .unset, .unset, .unset]) rfl k))) ?_
  generalize gi106 : (((p5.toUInt32 >>> ((1 : Int32) &&& 31).toUInt32).toInt32) &&& (3 : Int32)) = i106
  refine own_st (S' := T105.setTop (mkF m 57 #[.val (.int p0), .val (.int p1), .val (.int p2), .val (.int p3), .val (.int p4), .val (.int p5), .val (.int i101), .val (.int i102), .val (.int i103), .val (.int i104), .val (.ref r105), .val (.int i106), .unset, .unset, .unset, .unset, .unset] [(.int ((p4 &&& (255 : Int32)).toUInt32.toUInt16.toUInt32.toInt32))])) (fun _ k => XS.iload XX105.here hx rfl (hb hby at_50) rfl (XS.sipush XX105.here hx rfl (hb hby at_52) (XS.iand XX105.here hx rfl (hb hby at_55) rfl (XS.i2c XX105.here hx rfl (hb hby at_56) rfl k)))) ?_
  refine own_st (S' := T105.setTop (mkF m 59 #[.val (.int p0), .val (.int p1), .val (.int p2), .val (.int p3), .val (.int p4), .val (.int p5), .val (.int i101), .val (.int i102), .val (.int i103), .val (.int i104), .val (.ref r105), .val (.int i106), .val (.int ((p4 &&& (255 : Int32)).toUInt32.toUInt16.toUInt32.toInt32)), .unset, .unset, .unset, .unset] [])) (fun _ k => XS.istore XX105.here hx rfl (hb hby at_57) rfl (l' := #[.val (.int p0), .val (.int p1), .val (.int p2), .val (.int p3), .val (.int p4), .val (.int p5), .val (.int i101), .val (.int i102), .val (.int i103), .val (.int i104), .val (.ref r105), .val (.int i106), .val (.int ((p4 &&& (255 : Int32)).toUInt32.toUInt16.toUInt32.toInt32)), .unset, .unset, .unset, .unset]) rfl k) ?_
  generalize gi107 : ((p4 &&& (255 : Int32)).toUInt32.toUInt16.toUInt32.toInt32) = i107
  refine own_st (S' := T105.setTop (mkF m 63 #[.val (.int p0), .val (.int p1), .val (.int p2), .val (.int p3), .val (.int p4), .val (.int p5), .val (.int i101), .val (.int i102), .val (.int i103), .val (.int i104), .val (.ref r105), .val (.int i106), .val (.int i107), .unset, .unset, .unset, .unset] [(.int (p5 &&& (1 : Int32)))])) (fun _ k => XS.iload XX105.here hx rfl (hb hby at_59) rfl (XS.iconst XX105.here hx rfl (hb hby at_61) (XS.iand XX105.here hx rfl (hb hby at_62) rfl k))) ?_
  by_cases hc108 : (p5 &&& (1 : Int32)) = (0 : Int32)
  · refine own_st (S' := T105.setTop (mkF m 86 #[.val (.int p0), .val (.int p1), .val (.int p2), .val (.int p3), .val (.int p4), .val (.int p5), .val (.int i101), .val (.int i102), .val (.int i103), .val (.int i104), .val (.ref r105), .val (.int i106), .val (.int i107), .unset, .unset, .unset, .unset] [(.int i103), (.int i102), (.int i101)])) (fun _ k => XS.ifYes XX105.here hx rfl (pc0 := 63) (pc' := 80) rfl (hb hby at_63) rfl ((if0 _ _).trans (teq hc108).1) (by decide) (by decide) (XS.iload XX105.here hx rfl (hb hby at_80) rfl (XS.iload XX105.here hx rfl (hb hby at_82) rfl (XS.iload XX105.here hx rfl (hb hby at_84) rfl k)))) ?_
    refine own_st (S' := T105.setTop (mkF m 88 #[.val (.int p0), .val (.int p1), .val (.int p2), .val (.int p3), .val (.int p4), .val (.int p5), .val (.int i101), .val (.int i102), .val (.int i103), .val (.int i104), .val (.ref r105), .val (.int i106), .val (.int i107), .unset, .unset, .unset, .unset] [(.int i104), (.int i103), (.int i102), (.int i101)])) (fun _ k => XS.iload XX105.here hx rfl (hb hby at_86) rfl k) ?_
    have XO109 : Old Z n0 h105 := (XO.ext E105)
    obtain ⟨_, _, ⟨T110, L110, k110, n110⟩, -, X110, sn110, sg110, ⟨Lc110, hQ110, l110, y110, z110⟩, st110⟩ := callSS XX105 hx (y := (⟨"com/example/banyan/banyan/language/RoleNamedPinLaw", "str", "(ICCC)Ljava/lang/String;"⟩ : MethodName)) ho105 (mvT hz105 (hw _ own_w0)) (mvT hz105 (hw _ own_w1)) (mvT hz105 (hw _ own_w2)) (mvT hz105 (hw _ own_w3)) (by decide) (own_backS (W := 0) (own_rm_str l Z a0 hw G1 S1 P1 hCH hCW [] i101 i102 i103 i104 h105 n0 (Nat.le_trans Z0 E105.1) XO109 (own_chr gi102) (own_chr gi103) (own_chr gi104)) hz105 (hw _ own_w3) (hw _ own_w2) (by decide) (by decide)) (g := (mkF m 88 #[.val (.int p0), .val (.int p1), .val (.int p2), .val (.int p3), .val (.int p4), .val (.int p5), .val (.int i101), .val (.int i102), .val (.int i103), .val (.int i104), .val (.ref r105), .val (.int i106), .val (.int i107), .unset, .unset, .unset, .unset] [(.int i104), (.int i103), (.int i102), (.int i101)])) rfl (by rw [hml]; rfl) (argsL := [(.int i101), (.int i102), (.int i103), (.int i104)]) (rest := []) (lenOf own_pd9 rfl) rfl (by show 2 * 0 + _ ≤ _; exact Nat.le_of_eq rfl) (hb hby at_88) (fun _ hv => ⟨rfl, e105, (by decide : 4 + 4 ≤ _), (by decide : 10 + 10 ≤ _), LS105.warm hv⟩)
    dsimp only [Pt.U, Pt.locs, Pt.cells, Pt.slots] at X110 l110 y110 z110 st110 hQ110 sn110 sg110
    subst l110 y110 z110
    obtain ⟨XX110, ss110, hz110, ho110⟩ := rebS ss105 (n1 := T105.heap.size) (by rw [e105]; exact Nat.le_trans (Nat.le_refl _) (Nat.le_refl _)) X110 sn110 sg110 hz105 ho105
    obtain ⟨r110, rfl, M110, E110, g110, Y110, LS110⟩ := hQ110
    have N110 := Fr.app N105 M110
    obtain ⟨h110, e110⟩ : ∃ z, T110.heap = z := ⟨_, rfl⟩
    rw [e110] at E110 LS110 ss110 Y110
    refine own_tr (S' := T110.setTop (mkF m 91 #[.val (.int p0), .val (.int p1), .val (.int p2), .val (.int p3), .val (.int p4), .val (.int p5), .val (.int i101), .val (.int i102), .val (.int i103), .val (.int i104), .val (.ref r105), .val (.int i106), .val (.int i107), .unset, .unset, .unset, .unset] [(.ref r110)])) st110 ?_
    refine own_st (S' := T110.setTop (mkF m 95 #[.val (.int p0), .val (.int p1), .val (.int p2), .val (.int p3), .val (.int p4), .val (.int p5), .val (.int i101), .val (.int i102), .val (.int i103), .val (.int i104), .val (.ref r105), .val (.int i106), .val (.int i107), .val (.ref r110), .unset, .unset, .unset] [(.ref r105)])) (fun _ k => XS.astore XX110.here hx rfl (hb hby at_91) rfl rfl (l' := #[.val (.int p0), .val (.int p1), .val (.int p2), .val (.int p3), .val (.int p4), .val (.int p5), .val (.int i101), .val (.int i102), .val (.int i103), .val (.int i104), .val (.ref r105), .val (.int i106), .val (.int i107), .val (.ref r110), .unset, .unset, .unset]) rfl (XS.aload XX110.here hx rfl (hb hby at_93) rfl rfl k)) ?_
    have A111 : Exa Z h110 r105 "java/lang/String" := (Y105.exa.ext E110)
    have XO112 : Old Z n0 h110 := (XO109.ext E110)
    obtain ⟨_, _, ⟨T113, L113, k113, n113⟩, -, X113, ⟨Lc113, hQ113, l113, y113, z113⟩, st113⟩ := Jvm.LawKit.callS XX110 hx (y := (⟨"com/example/banyan/banyan/language/Role", "named", "(Ljava/lang/String;)Lcom/example/banyan/banyan/language/Role;"⟩ : MethodName)) ho110 (mvT hz110 (hw _ own_w41)) (mvT hz110 (hw _ own_w42)) (mvT hz110 (hw _ own_w43)) (mvT hz110 (hw _ own_w44)) (by decide) (backOf (W := 0) (own_rm_named l Z a0 hw G1 S1 P1 hCH hCW [] r105 h110 n0 (Nat.le_trans Z0 (Nat.le_trans E105.1 E110.1)) XO112 A111) hz110 (hw _ own_w44) (hw _ own_w43) (by decide) (by decide)) (g := (mkF m 95 #[.val (.int p0), .val (.int p1), .val (.int p2), .val (.int p3), .val (.int p4), .val (.int p5), .val (.int i101), .val (.int i102), .val (.int i103), .val (.int i104), .val (.ref r105), .val (.int i106), .val (.int i107), .val (.ref r110), .unset, .unset, .unset] [(.ref r105)])) rfl (by rw [hml]; rfl) (argsL := [(.ref r105)]) (rest := []) (lenOf own_pd10 rfl) rfl (by show 2 * 0 + _ ≤ _; exact Nat.le_of_eq rfl) (hb hby at_95) (fun _ _ => ⟨rfl, e110, (by decide : 8 + 1 ≤ _), (by decide : 20 + 2 ≤ _)⟩)
    dsimp only [Pt.U, Pt.locs, Pt.cells, Pt.slots] at X113 l113 y113 z113 st113 hQ113
    subst l113 y113 z113
    obtain ⟨r113, rfl, M113, E113, g113, A113, Fn113, Fi113⟩ := hQ113
    have N113 := Fr.app N110 M113
    obtain ⟨h113, e113⟩ : ∃ z, T113.heap = z := ⟨_, rfl⟩
    rw [e113] at E113 A113 Fn113 Fi113
    refine own_st (S' := T113.setTop (mkF m 98 #[.val (.int p0), .val (.int p1), .val (.int p2), .val (.int p3), .val (.int p4), .val (.int p5), .val (.int i101), .val (.int i102), .val (.int i103), .val (.int i104), .val (.ref r105), .val (.int i106), .val (.int i107), .val (.ref r110), .unset, .unset, .unset] [(.ref r113)])) st113 ?_
    refine own_st (S' := T113.setTop (mkF m 102 #[.val (.int p0), .val (.int p1), .val (.int p2), .val (.int p3), .val (.int p4), .val (.int p5), .val (.int i101), .val (.int i102), .val (.int i103), .val (.int i104), .val (.ref r105), .val (.int i106), .val (.int i107), .val (.ref r110), .val (.ref r113), .unset, .unset] [(.ref r110)])) (fun _ k => XS.astore X113.here hx rfl (hb hby at_98) rfl rfl (l' := #[.val (.int p0), .val (.int p1), .val (.int p2), .val (.int p3), .val (.int p4), .val (.int p5), .val (.int i101), .val (.int i102), .val (.int i103), .val (.int i104), .val (.ref r105), .val (.int i106), .val (.int i107), .val (.ref r110), .val (.ref r113), .unset, .unset]) rfl (XS.aload X113.here hx rfl (hb hby at_100) rfl rfl k)) ?_
    have A114 : Exa Z h113 r110 "java/lang/String" := (Y110.exa.ext E113)
    have XO115 : Old Z n0 h113 := (XO112.ext E113)
    obtain ⟨_, _, ⟨T116, L116, k116, n116⟩, -, X116, ⟨Lc116, hQ116, l116, y116, z116⟩, st116⟩ := Jvm.LawKit.callS X113 hx (y := (⟨"com/example/banyan/banyan/language/Role", "named", "(Ljava/lang/String;)Lcom/example/banyan/banyan/language/Role;"⟩ : MethodName)) ho110 (mvT hz110 (hw _ own_w41)) (mvT hz110 (hw _ own_w42)) (mvT hz110 (hw _ own_w43)) (mvT hz110 (hw _ own_w44)) (by decide) (backOf (W := 0) (own_rm_named l Z a0 hw G1 S1 P1 hCH hCW [] r110 h113 n0 (Nat.le_trans Z0 (Nat.le_trans (Nat.le_trans E105.1 E110.1) E113.1)) XO115 A114) hz110 (hw _ own_w44) (hw _ own_w43) (by decide) (by decide)) (g := (mkF m 102 #[.val (.int p0), .val (.int p1), .val (.int p2), .val (.int p3), .val (.int p4), .val (.int p5), .val (.int i101), .val (.int i102), .val (.int i103), .val (.int i104), .val (.ref r105), .val (.int i106), .val (.int i107), .val (.ref r110), .val (.ref r113), .unset, .unset] [(.ref r110)])) rfl (by rw [hml]; rfl) (argsL := [(.ref r110)]) (rest := []) (lenOf own_pd10 rfl) rfl (by show 2 * 0 + _ ≤ _; exact Nat.le_of_eq rfl) (hb hby at_102) (fun _ _ => ⟨rfl, e113, (by decide : 9 + 1 ≤ _), (by decide : 22 + 2 ≤ _)⟩)
    dsimp only [Pt.U, Pt.locs, Pt.cells, Pt.slots] at X116 l116 y116 z116 st116 hQ116
    subst l116 y116 z116
    obtain ⟨r116, rfl, M116, E116, g116, A116, Fn116, Fi116⟩ := hQ116
    have N116 := Fr.app N113 M116
    obtain ⟨h116, e116⟩ : ∃ z, T116.heap = z := ⟨_, rfl⟩
    rw [e116] at E116 A116 Fn116 Fi116
    refine own_st (S' := T116.setTop (mkF m 105 #[.val (.int p0), .val (.int p1), .val (.int p2), .val (.int p3), .val (.int p4), .val (.int p5), .val (.int i101), .val (.int i102), .val (.int i103), .val (.int i104), .val (.ref r105), .val (.int i106), .val (.int i107), .val (.ref r110), .val (.ref r113), .unset, .unset] [(.ref r116)])) st116 ?_
    refine own_st (S' := T116.setTop (mkF m 109 #[.val (.int p0), .val (.int p1), .val (.int p2), .val (.int p3), .val (.int p4), .val (.int p5), .val (.int i101), .val (.int i102), .val (.int i103), .val (.int i104), .val (.ref r105), .val (.int i106), .val (.int i107), .val (.ref r110), .val (.ref r113), .val (.ref r116), .unset] [(.ref r113)])) (fun _ k => XS.astore X116.here hx rfl (hb hby at_105) rfl rfl (l' := #[.val (.int p0), .val (.int p1), .val (.int p2), .val (.int p3), .val (.int p4), .val (.int p5), .val (.int i101), .val (.int i102), .val (.int i103), .val (.int i104), .val (.ref r105), .val (.int i106), .val (.int i107), .val (.ref r110), .val (.ref r113), .val (.ref r116), .unset]) rfl (XS.aload X116.here hx rfl (hb hby at_107) rfl rfl k)) ?_
    have F117 : Fld Z h116 r113 "com/example/banyan/banyan/language/Role" "name" "Ljava/lang/String;" (.ref r105) := (Fn113.ext E116)
    have XO118 : Old Z n0 h116 := (XO115.ext E116)
    have A120 : Exa Z h116 r113 "com/example/banyan/banyan/language/Role" := (A113.ext E116)
    obtain ⟨cq119, kq119, q119a, q119b, q119c⟩ := isOf hz110 e116 A120
    obtain ⟨_, _, ⟨T119, L119, k119, n119⟩, -, X119, ⟨Lc119, hQ119, l119, y119, z119⟩, st119⟩ := X116.virtualBack hx (y := (⟨"com/example/banyan/banyan/language/Role", "name", "()Ljava/lang/String;"⟩ : MethodName)) (z := (⟨"com/example/banyan/banyan/language/Role", "name", "()Ljava/lang/String;"⟩ : MethodName)) ho110 (mvT hz110 (hw _ own_w60)) (mvT hz110 (hw _ own_w61)) (notFace_of_selects (args := #[]) (mvT hz110 (hw _ own_w63))) (mvT hz110 (hw _ own_w63)) (mvT hz110 (hw _ own_w62)) (by decide) (backOf (W := 0) (own_rm_name l Z a0 hw G1 S1 P1 hCH hCW [] r113 r105 h116 n0 (Nat.le_trans Z0 (Nat.le_trans (Nat.le_trans (Nat.le_trans E105.1 E110.1) E113.1) E116.1)) XO118 F117) hz110 (hw _ own_w64) (hw _ own_w43) (by decide) (by decide)) q119a q119c (g := (mkF m 109 #[.val (.int p0), .val (.int p1), .val (.int p2), .val (.int p3), .val (.int p4), .val (.int p5), .val (.int i101), .val (.int i102), .val (.int i103), .val (.int i104), .val (.ref r105), .val (.int i106), .val (.int i107), .val (.ref r110), .val (.ref r113), .val (.ref r116), .unset] [(.ref r113)])) rfl (by rw [hml]; rfl) (Steps.refl _) (argsL := []) (rest := []) (lenOf own_pd11 rfl) rfl (by show 2 * 0 + _ ≤ _; exact Nat.le_of_eq rfl) (hb hby at_109) (fun _ _ => ⟨rfl, e116, (by decide : 10 + 0 ≤ _), (by decide : 24 + 0 ≤ _)⟩)
    dsimp only [Pt.U, Pt.locs, Pt.cells, Pt.slots] at X119 l119 y119 z119 st119 hQ119
    subst l119 y119 z119
    obtain ⟨rfl, M119, e119⟩ := hQ119
    have N119 := Fr.app N116 M119
    refine own_tr (S' := T119.setTop (mkF m 112 #[.val (.int p0), .val (.int p1), .val (.int p2), .val (.int p3), .val (.int p4), .val (.int p5), .val (.int i101), .val (.int i102), .val (.int i103), .val (.int i104), .val (.ref r105), .val (.int i106), .val (.int i107), .val (.ref r110), .val (.ref r113), .val (.ref r116), .unset] [(.ref r105)])) st119 ?_
    refine own_st (S' := T119.setTop (mkF m 114 #[.val (.int p0), .val (.int p1), .val (.int p2), .val (.int p3), .val (.int p4), .val (.int p5), .val (.int i101), .val (.int i102), .val (.int i103), .val (.int i104), .val (.ref r105), .val (.int i106), .val (.int i107), .val (.ref r110), .val (.ref r113), .val (.ref r116), .unset] [(.ref r105), (.ref r105)])) (fun _ k => XS.aload X119.here hx rfl (hb hby at_112) rfl rfl k) ?_
    have XE121 : Ext h105 h116 := (own_xt (own_xt E110 E113) E116)
    have G122 : own_Str Z h116 r105 (own_txt i101 i102 i103 i104) := (Y105.ext XE121)
    have S123 : Sta Z h116 "java/lang/String" "COMPACT_STRINGS" "Z" (.int G1) := (S1.ext XO118.2)
    have XE125 : Ext h110 h116 := (own_xt E113 E116)
    have A126 : Exa Z h116 r105 "java/lang/String" := (A111.ext XE125)
    obtain ⟨cq124, kq124, q124a, q124b, q124c⟩ := isOf hz110 e119 A126
    obtain ⟨_, _, ⟨T124, L124, k124, n124⟩, -, X124, ⟨Lc124, hQ124, l124, y124, z124⟩, st124⟩ := X119.virtualBack hx (y := (⟨"java/lang/String", "equals", "(Ljava/lang/Object;)Z"⟩ : MethodName)) (z := (⟨"java/lang/String", "equals", "(Ljava/lang/Object;)Z"⟩ : MethodName)) ho110 (mvT hz110 (hw _ own_w65)) (mvT hz110 (hw _ own_w66)) (notFace_of_selects (args := #[]) (mvT hz110 (hw _ own_w68))) (mvT hz110 (hw _ own_w68)) (mvT hz110 (hw _ own_w67)) (by decide) (own_eqB (W := 0) hz110 hw G122 G122 S123 P1 (by decide) (by decide)) q124a q124c (g := (mkF m 114 #[.val (.int p0), .val (.int p1), .val (.int p2), .val (.int p3), .val (.int p4), .val (.int p5), .val (.int i101), .val (.int i102), .val (.int i103), .val (.int i104), .val (.ref r105), .val (.int i106), .val (.int i107), .val (.ref r110), .val (.ref r113), .val (.ref r116), .unset] [(.ref r105), (.ref r105)])) rfl (by rw [hml]; rfl) (Steps.refl _) (argsL := [(.ref r105)]) (rest := []) (lenOf own_pd8 rfl) rfl (by show 2 * 0 + _ ≤ _; exact Nat.le_of_eq rfl) (hb hby at_114) (fun _ _ => ⟨rfl, e119, (by decide : 10 + 0 ≤ _), (by decide : 24 + 0 ≤ _)⟩)
    dsimp only [Pt.U, Pt.locs, Pt.cells, Pt.slots] at X124 l124 y124 z124 st124 hQ124
    subst l124 y124 z124
    obtain ⟨hQ124, rfl, e124⟩ := hQ124
    try rw [List.append_nil] at X124
    obtain ⟨rfl, -⟩ := own_pickY hQ124 rfl
    refine own_tr (S' := T124.setTop (mkF m 117 #[.val (.int p0), .val (.int p1), .val (.int p2), .val (.int p3), .val (.int p4), .val (.int p5), .val (.int i101), .val (.int i102), .val (.int i103), .val (.int i104), .val (.ref r105), .val (.int i106), .val (.int i107), .val (.ref r110), .val (.ref r113), .val (.ref r116), .unset] [(.int (1 : Int32))])) st124 ?_
    refine own_st (S' := T124.setTop (mkF m 124 #[.val (.int p0), .val (.int p1), .val (.int p2), .val (.int p3), .val (.int p4), .val (.int p5), .val (.int i101), .val (.int i102), .val (.int i103), .val (.int i104), .val (.ref r105), .val (.int i106), .val (.int i107), .val (.ref r110), .val (.ref r113), .val (.ref r116), .unset] [(.ref r113)])) (fun _ k => XS.ifYes X124.here hx rfl (pc0 := 117) (pc' := 122) rfl (hb hby at_117) rfl (by decide) (by decide) (by decide) (XS.aload X124.here hx rfl (hb hby at_122) rfl rfl k)) ?_
    have F127 : Fld Z h116 r113 "com/example/banyan/banyan/language/Role" "inverse" "Z" (.int (0 : Int32)) := (Fi113.ext E116)
    obtain ⟨cq128, kq128, q128a, q128b, q128c⟩ := isOf hz110 e124 A120
    obtain ⟨_, _, ⟨T128, L128, k128, n128⟩, -, X128, ⟨Lc128, hQ128, l128, y128, z128⟩, st128⟩ := X124.virtualBack hx (y := (⟨"com/example/banyan/banyan/language/Role", "isInverse", "()Z"⟩ : MethodName)) (z := (⟨"com/example/banyan/banyan/language/Role", "isInverse", "()Z"⟩ : MethodName)) ho110 (mvT hz110 (hw _ own_w70)) (mvT hz110 (hw _ own_w71)) (notFace_of_selects (args := #[]) (mvT hz110 (hw _ own_w73))) (mvT hz110 (hw _ own_w73)) (mvT hz110 (hw _ own_w72)) (by decide) (backOf (W := 0) (own_rm_isi0 l Z a0 hw G1 S1 P1 hCH hCW [] r113 h116 n0 (Nat.le_trans Z0 (Nat.le_trans (Nat.le_trans (Nat.le_trans E105.1 E110.1) E113.1) E116.1)) XO118 F127) hz110 (hw _ own_w74) (hw _ own_w43) (by decide) (by decide)) q128a q128c (g := (mkF m 124 #[.val (.int p0), .val (.int p1), .val (.int p2), .val (.int p3), .val (.int p4), .val (.int p5), .val (.int i101), .val (.int i102), .val (.int i103), .val (.int i104), .val (.ref r105), .val (.int i106), .val (.int i107), .val (.ref r110), .val (.ref r113), .val (.ref r116), .unset] [(.ref r113)])) rfl (by rw [hml]; rfl) (Steps.refl _) (argsL := []) (rest := []) (lenOf own_pd12 rfl) rfl (by show 2 * 0 + _ ≤ _; exact Nat.le_of_eq rfl) (hb hby at_124) (fun _ _ => ⟨rfl, e124, (by decide : 10 + 0 ≤ _), (by decide : 24 + 0 ≤ _)⟩)
    dsimp only [Pt.U, Pt.locs, Pt.cells, Pt.slots] at X128 l128 y128 z128 st128 hQ128
    subst l128 y128 z128
    obtain ⟨rfl, M128, e128⟩ := hQ128
    have N128 := Fr.app N119 M128
    refine own_tr (S' := T128.setTop (mkF m 127 #[.val (.int p0), .val (.int p1), .val (.int p2), .val (.int p3), .val (.int p4), .val (.int p5), .val (.int i101), .val (.int i102), .val (.int i103), .val (.int i104), .val (.ref r105), .val (.int i106), .val (.int i107), .val (.ref r110), .val (.ref r113), .val (.ref r116), .unset] [(.int (0 : Int32))])) st128 ?_
    refine own_st (S' := T128.setTop (mkF m 136 #[.val (.int p0), .val (.int p1), .val (.int p2), .val (.int p3), .val (.int p4), .val (.int p5), .val (.int i101), .val (.int i102), .val (.int i103), .val (.int i104), .val (.ref r105), .val (.int i106), .val (.int i107), .val (.ref r110), .val (.ref r113), .val (.ref r116), .unset] [(.ref r116), (.ref r113)])) (fun _ k => XS.ifYes X128.here hx rfl (pc0 := 127) (pc' := 132) rfl (hb hby at_127) rfl (by decide) (by decide) (by decide) (XS.aload X128.here hx rfl (hb hby at_132) rfl rfl (XS.aload X128.here hx rfl (hb hby at_134) rfl rfl k))) ?_
    have G129 : own_Str Z h116 r110 (own_txt i101 i102 i103 i104) := (Y110.ext XE125)
    obtain ⟨cq130, kq130, q130a, q130b, q130c⟩ := isOf hz110 e128 A120
    obtain ⟨_, _, ⟨T130, L130, k130, n130⟩, -, X130, ⟨Lc130, hQ130, l130, y130, z130⟩, st130⟩ := X128.virtualBack hx (y := (⟨"com/example/banyan/banyan/language/Role", "equals", "(Ljava/lang/Object;)Z"⟩ : MethodName)) (z := (⟨"com/example/banyan/banyan/language/Role", "equals", "(Ljava/lang/Object;)Z"⟩ : MethodName)) ho110 (mvT hz110 (hw _ own_w75)) (mvT hz110 (hw _ own_w76)) (notFace_of_selects (args := #[]) (mvT hz110 (hw _ own_w78))) (mvT hz110 (hw _ own_w78)) (mvT hz110 (hw _ own_w77)) (by decide) (backOf (W := 0) (own_rm_eqr l Z a0 hw G1 S1 P1 hCH hCW [] r113 r116 r105 r110 (own_txt i101 i102 i103 i104) (own_txt i101 i102 i103 i104) h116 n0 (Nat.le_trans Z0 (Nat.le_trans (Nat.le_trans (Nat.le_trans E105.1 E110.1) E113.1) E116.1)) XO118 F117 F127 A116 Fn116 Fi116 G122 G129) hz110 (hw _ own_w79) (hw _ own_w43) (by decide) (by decide)) q130a q130c (g := (mkF m 136 #[.val (.int p0), .val (.int p1), .val (.int p2), .val (.int p3), .val (.int p4), .val (.int p5), .val (.int i101), .val (.int i102), .val (.int i103), .val (.int i104), .val (.ref r105), .val (.int i106), .val (.int i107), .val (.ref r110), .val (.ref r113), .val (.ref r116), .unset] [(.ref r116), (.ref r113)])) rfl (by rw [hml]; rfl) (Steps.refl _) (argsL := [(.ref r116)]) (rest := []) (lenOf own_pd8 rfl) rfl (by show 2 * 0 + _ ≤ _; exact Nat.le_of_eq rfl) (hb hby at_136) (fun _ _ => ⟨rfl, e128, (by decide : 10 + 0 ≤ _), (by decide : 24 + 0 ≤ _)⟩)
    dsimp only [Pt.U, Pt.locs, Pt.cells, Pt.slots] at X130 l130 y130 z130 st130 hQ130
    subst l130 y130 z130
    obtain ⟨o130, M130, e130⟩ := hQ130
    have N130 := Fr.app N128 M130
    obtain ⟨rfl, -⟩ := own_pickY o130 rfl
    refine own_tr (S' := T130.setTop (mkF m 139 #[.val (.int p0), .val (.int p1), .val (.int p2), .val (.int p3), .val (.int p4), .val (.int p5), .val (.int i101), .val (.int i102), .val (.int i103), .val (.int i104), .val (.ref r105), .val (.int i106), .val (.int i107), .val (.ref r110), .val (.ref r113), .val (.ref r116), .unset] [(.int (1 : Int32))])) st130 ?_
    refine own_st (S' := T130.setTop (mkF m 143 #[.val (.int p0), .val (.int p1), .val (.int p2), .val (.int p3), .val (.int p4), .val (.int p5), .val (.int i101), .val (.int i102), .val (.int i103), .val (.int i104), .val (.ref r105), .val (.int i106), .val (.int i107), .val (.ref r110), .val (.ref r113), .val (.ref r116), .unset] [(.ref r110), (.ref r105), (.int (1 : Int32))])) (fun _ k => XS.aload X130.here hx rfl (hb hby at_139) rfl rfl (XS.aload X130.here hx rfl (hb hby at_141) rfl rfl k)) ?_
    obtain ⟨cq131, kq131, q131a, q131b, q131c⟩ := isOf hz110 e130 A126
    obtain ⟨_, _, ⟨T131, L131, k131, n131⟩, -, X131, ⟨Lc131, hQ131, l131, y131, z131⟩, st131⟩ := X130.virtualBack hx (y := (⟨"java/lang/String", "equals", "(Ljava/lang/Object;)Z"⟩ : MethodName)) (z := (⟨"java/lang/String", "equals", "(Ljava/lang/Object;)Z"⟩ : MethodName)) ho110 (mvT hz110 (hw _ own_w65)) (mvT hz110 (hw _ own_w66)) (notFace_of_selects (args := #[]) (mvT hz110 (hw _ own_w68))) (mvT hz110 (hw _ own_w68)) (mvT hz110 (hw _ own_w67)) (by decide) (own_eqB (W := 1) hz110 hw G122 G129 S123 P1 (by decide) (by decide)) q131a q131c (g := (mkF m 143 #[.val (.int p0), .val (.int p1), .val (.int p2), .val (.int p3), .val (.int p4), .val (.int p5), .val (.int i101), .val (.int i102), .val (.int i103), .val (.int i104), .val (.ref r105), .val (.int i106), .val (.int i107), .val (.ref r110), .val (.ref r113), .val (.ref r116), .unset] [(.ref r110), (.ref r105), (.int (1 : Int32))])) rfl (by rw [hml]; rfl) (Steps.refl _) (argsL := [(.ref r110)]) (rest := [(.int (1 : Int32))]) (lenOf own_pd8 rfl) rfl (by show 2 * 0 + _ ≤ _; exact Nat.le_of_eq rfl) (hb hby at_143) (fun _ _ => ⟨rfl, e130, (by decide : 10 + 0 ≤ _), (by decide : 24 + 0 ≤ _)⟩)
    dsimp only [Pt.U, Pt.locs, Pt.cells, Pt.slots] at X131 l131 y131 z131 st131 hQ131
    subst l131 y131 z131
    obtain ⟨hQ131, rfl, e131⟩ := hQ131
    try rw [List.append_nil] at X131
    obtain ⟨rfl, -⟩ := own_pickY hQ131 rfl
    refine own_tr (S' := T131.setTop (mkF m 146 #[.val (.int p0), .val (.int p1), .val (.int p2), .val (.int p3), .val (.int p4), .val (.int p5), .val (.int i101), .val (.int i102), .val (.int i103), .val (.int i104), .val (.ref r105), .val (.int i106), .val (.int i107), .val (.ref r110), .val (.ref r113), .val (.ref r116), .unset] [(.int (1 : Int32)), (.int (1 : Int32))])) st131 ?_
    refine own_st (S' := T131.setTop (mkF m 153 #[.val (.int p0), .val (.int p1), .val (.int p2), .val (.int p3), .val (.int p4), .val (.int p5), .val (.int i101), .val (.int i102), .val (.int i103), .val (.int i104), .val (.ref r105), .val (.int i106), .val (.int i107), .val (.ref r110), .val (.ref r113), .val (.ref r116), .unset] [(.ref r113)])) (fun _ k => XS.icmpYes X131.here hx rfl (pc0 := 146) (pc' := 151) rfl (hb hby at_146) rfl (by decide) (by decide) (by decide) (XS.aload X131.here hx rfl (hb hby at_151) rfl rfl k)) ?_
    obtain ⟨cq132, kq132, q132a, q132b, q132c⟩ := isOf hz110 e131 A120
    obtain ⟨_, _, ⟨T132, L132, k132, n132⟩, -, X132, ⟨Lc132, hQ132, l132, y132, z132⟩, st132⟩ := X131.virtualBack hx (y := (⟨"com/example/banyan/banyan/language/Role", "inverse", "()Lcom/example/banyan/banyan/language/Role;"⟩ : MethodName)) (z := (⟨"com/example/banyan/banyan/language/Role", "inverse", "()Lcom/example/banyan/banyan/language/Role;"⟩ : MethodName)) ho110 (mvT hz110 (hw _ own_w85)) (mvT hz110 (hw _ own_w86)) (notFace_of_selects (args := #[]) (mvT hz110 (hw _ own_w88))) (mvT hz110 (hw _ own_w88)) (mvT hz110 (hw _ own_w87)) (by decide) (backOf (W := 0) (own_rm_inv l Z a0 hw G1 S1 P1 hCH hCW [] r113 r105 h116 n0 (Nat.le_trans Z0 (Nat.le_trans (Nat.le_trans (Nat.le_trans E105.1 E110.1) E113.1) E116.1)) XO118 F117 F127) hz110 (hw _ own_w89) (hw _ own_w43) (by decide) (by decide)) q132a q132c (g := (mkF m 153 #[.val (.int p0), .val (.int p1), .val (.int p2), .val (.int p3), .val (.int p4), .val (.int p5), .val (.int i101), .val (.int i102), .val (.int i103), .val (.int i104), .val (.ref r105), .val (.int i106), .val (.int i107), .val (.ref r110), .val (.ref r113), .val (.ref r116), .unset] [(.ref r113)])) rfl (by rw [hml]; rfl) (Steps.refl _) (argsL := []) (rest := []) (lenOf own_pd13 rfl) rfl (by show 2 * 0 + _ ≤ _; exact Nat.le_of_eq rfl) (hb hby at_153) (fun _ _ => ⟨rfl, e131, (by decide : 10 + 1 ≤ _), (by decide : 24 + 2 ≤ _)⟩)
    dsimp only [Pt.U, Pt.locs, Pt.cells, Pt.slots] at X132 l132 y132 z132 st132 hQ132
    subst l132 y132 z132
    obtain ⟨r132, rfl, M132, E132, g132, A132, Fn132, Fi132⟩ := hQ132
    have N132 := Fr.app N130 M132
    obtain ⟨h132, e132⟩ : ∃ z, T132.heap = z := ⟨_, rfl⟩
    rw [e132] at E132 A132 Fn132 Fi132
    refine own_tr (S' := T132.setTop (mkF m 156 #[.val (.int p0), .val (.int p1), .val (.int p2), .val (.int p3), .val (.int p4), .val (.int p5), .val (.int i101), .val (.int i102), .val (.int i103), .val (.int i104), .val (.ref r105), .val (.int i106), .val (.int i107), .val (.ref r110), .val (.ref r113), .val (.ref r116), .unset] [(.ref r132)])) st132 ?_
    refine own_st (S' := T132.setTop (mkF m 160 #[.val (.int p0), .val (.int p1), .val (.int p2), .val (.int p3), .val (.int p4), .val (.int p5), .val (.int i101), .val (.int i102), .val (.int i103), .val (.int i104), .val (.ref r105), .val (.int i106), .val (.int i107), .val (.ref r110), .val (.ref r113), .val (.ref r116), .val (.ref r132)] [(.ref r132)])) (fun _ k => XS.astore X132.here hx rfl (hb hby at_156) rfl rfl (l' := #[.val (.int p0), .val (.int p1), .val (.int p2), .val (.int p3), .val (.int p4), .val (.int p5), .val (.int i101), .val (.int i102), .val (.int i103), .val (.int i104), .val (.ref r105), .val (.int i106), .val (.int i107), .val (.ref r110), .val (.ref r113), .val (.ref r116), .val (.ref r132)]) rfl (XS.aload X132.here hx rfl (hb hby at_158) rfl rfl k)) ?_
    have XO133 : Old Z n0 h132 := (XO118.ext E132)
    obtain ⟨cq134, kq134, q134a, q134b, q134c⟩ := isOf hz110 e132 A132
    obtain ⟨_, _, ⟨T134, L134, k134, n134⟩, -, X134, ⟨Lc134, hQ134, l134, y134, z134⟩, st134⟩ := X132.virtualBack hx (y := (⟨"com/example/banyan/banyan/language/Role", "isInverse", "()Z"⟩ : MethodName)) (z := (⟨"com/example/banyan/banyan/language/Role", "isInverse", "()Z"⟩ : MethodName)) ho110 (mvT hz110 (hw _ own_w70)) (mvT hz110 (hw _ own_w71)) (notFace_of_selects (args := #[]) (mvT hz110 (hw _ own_w73))) (mvT hz110 (hw _ own_w73)) (mvT hz110 (hw _ own_w72)) (by decide) (backOf (W := 0) (own_rm_isi1 l Z a0 hw G1 S1 P1 hCH hCW [] r132 h132 n0 (Nat.le_trans Z0 (Nat.le_trans (Nat.le_trans (Nat.le_trans (Nat.le_trans E105.1 E110.1) E113.1) E116.1) E132.1)) XO133 Fi132) hz110 (hw _ own_w74) (hw _ own_w43) (by decide) (by decide)) q134a q134c (g := (mkF m 160 #[.val (.int p0), .val (.int p1), .val (.int p2), .val (.int p3), .val (.int p4), .val (.int p5), .val (.int i101), .val (.int i102), .val (.int i103), .val (.int i104), .val (.ref r105), .val (.int i106), .val (.int i107), .val (.ref r110), .val (.ref r113), .val (.ref r116), .val (.ref r132)] [(.ref r132)])) rfl (by rw [hml]; rfl) (Steps.refl _) (argsL := []) (rest := []) (lenOf own_pd12 rfl) rfl (by show 2 * 0 + _ ≤ _; exact Nat.le_of_eq rfl) (hb hby at_160) (fun _ _ => ⟨rfl, e132, (by decide : 11 + 0 ≤ _), (by decide : 26 + 0 ≤ _)⟩)
    dsimp only [Pt.U, Pt.locs, Pt.cells, Pt.slots] at X134 l134 y134 z134 st134 hQ134
    subst l134 y134 z134
    obtain ⟨rfl, M134, e134⟩ := hQ134
    have N134 := Fr.app N132 M134
    refine own_tr (S' := T134.setTop (mkF m 163 #[.val (.int p0), .val (.int p1), .val (.int p2), .val (.int p3), .val (.int p4), .val (.int p5), .val (.int i101), .val (.int i102), .val (.int i103), .val (.int i104), .val (.ref r105), .val (.int i106), .val (.int i107), .val (.ref r110), .val (.ref r113), .val (.ref r116), .val (.ref r132)] [(.int (1 : Int32))])) st134 ?_
    refine own_st (S' := T134.setTop (mkF m 168 #[.val (.int p0), .val (.int p1), .val (.int p2), .val (.int p3), .val (.int p4), .val (.int p5), .val (.int i101), .val (.int i102), .val (.int i103), .val (.int i104), .val (.ref r105), .val (.int i106), .val (.int i107), .val (.ref r110), .val (.ref r113), .val (.ref r116), .val (.ref r132)] [(.ref r132)])) (fun _ k => XS.ifNo X134.here hx rfl (hb hby at_163) rfl (by decide) (XS.aload X134.here hx rfl (hb hby at_166) rfl rfl k)) ?_
    obtain ⟨cq135, kq135, q135a, q135b, q135c⟩ := isOf hz110 e134 A132
    obtain ⟨_, _, ⟨T135, L135, k135, n135⟩, -, X135, ⟨Lc135, hQ135, l135, y135, z135⟩, st135⟩ := X134.virtualBack hx (y := (⟨"com/example/banyan/banyan/language/Role", "name", "()Ljava/lang/String;"⟩ : MethodName)) (z := (⟨"com/example/banyan/banyan/language/Role", "name", "()Ljava/lang/String;"⟩ : MethodName)) ho110 (mvT hz110 (hw _ own_w60)) (mvT hz110 (hw _ own_w61)) (notFace_of_selects (args := #[]) (mvT hz110 (hw _ own_w63))) (mvT hz110 (hw _ own_w63)) (mvT hz110 (hw _ own_w62)) (by decide) (backOf (W := 0) (own_rm_name l Z a0 hw G1 S1 P1 hCH hCW [] r132 r105 h132 n0 (Nat.le_trans Z0 (Nat.le_trans (Nat.le_trans (Nat.le_trans (Nat.le_trans E105.1 E110.1) E113.1) E116.1) E132.1)) XO133 Fn132) hz110 (hw _ own_w64) (hw _ own_w43) (by decide) (by decide)) q135a q135c (g := (mkF m 168 #[.val (.int p0), .val (.int p1), .val (.int p2), .val (.int p3), .val (.int p4), .val (.int p5), .val (.int i101), .val (.int i102), .val (.int i103), .val (.int i104), .val (.ref r105), .val (.int i106), .val (.int i107), .val (.ref r110), .val (.ref r113), .val (.ref r116), .val (.ref r132)] [(.ref r132)])) rfl (by rw [hml]; rfl) (Steps.refl _) (argsL := []) (rest := []) (lenOf own_pd11 rfl) rfl (by show 2 * 0 + _ ≤ _; exact Nat.le_of_eq rfl) (hb hby at_168) (fun _ _ => ⟨rfl, e134, (by decide : 11 + 0 ≤ _), (by decide : 26 + 0 ≤ _)⟩)
    dsimp only [Pt.U, Pt.locs, Pt.cells, Pt.slots] at X135 l135 y135 z135 st135 hQ135
    subst l135 y135 z135
    obtain ⟨rfl, M135, e135⟩ := hQ135
    have N135 := Fr.app N134 M135
    refine own_tr (S' := T135.setTop (mkF m 171 #[.val (.int p0), .val (.int p1), .val (.int p2), .val (.int p3), .val (.int p4), .val (.int p5), .val (.int i101), .val (.int i102), .val (.int i103), .val (.int i104), .val (.ref r105), .val (.int i106), .val (.int i107), .val (.ref r110), .val (.ref r113), .val (.ref r116), .val (.ref r132)] [(.ref r105)])) st135 ?_
    refine own_st (S' := T135.setTop (mkF m 173 #[.val (.int p0), .val (.int p1), .val (.int p2), .val (.int p3), .val (.int p4), .val (.int p5), .val (.int i101), .val (.int i102), .val (.int i103), .val (.int i104), .val (.ref r105), .val (.int i106), .val (.int i107), .val (.ref r110), .val (.ref r113), .val (.ref r116), .val (.ref r132)] [(.ref r105), (.ref r105)])) (fun _ k => XS.aload X135.here hx rfl (hb hby at_171) rfl rfl k) ?_
    have G136 : own_Str Z h132 r105 (own_txt i101 i102 i103 i104) := (G122.ext E132)
    have S137 : Sta Z h132 "java/lang/String" "COMPACT_STRINGS" "Z" (.int G1) := (S1.ext XO133.2)
    have A139 : Exa Z h132 r105 "java/lang/String" := (A126.ext E132)
    obtain ⟨cq138, kq138, q138a, q138b, q138c⟩ := isOf hz110 e135 A139
    obtain ⟨_, _, ⟨T138, L138, k138, n138⟩, -, X138, ⟨Lc138, hQ138, l138, y138, z138⟩, st138⟩ := X135.virtualBack hx (y := (⟨"java/lang/String", "equals", "(Ljava/lang/Object;)Z"⟩ : MethodName)) (z := (⟨"java/lang/String", "equals", "(Ljava/lang/Object;)Z"⟩ : MethodName)) ho110 (mvT hz110 (hw _ own_w65)) (mvT hz110 (hw _ own_w66)) (notFace_of_selects (args := #[]) (mvT hz110 (hw _ own_w68))) (mvT hz110 (hw _ own_w68)) (mvT hz110 (hw _ own_w67)) (by decide) (own_eqB (W := 0) hz110 hw G136 G136 S137 P1 (by decide) (by decide)) q138a q138c (g := (mkF m 173 #[.val (.int p0), .val (.int p1), .val (.int p2), .val (.int p3), .val (.int p4), .val (.int p5), .val (.int i101), .val (.int i102), .val (.int i103), .val (.int i104), .val (.ref r105), .val (.int i106), .val (.int i107), .val (.ref r110), .val (.ref r113), .val (.ref r116), .val (.ref r132)] [(.ref r105), (.ref r105)])) rfl (by rw [hml]; rfl) (Steps.refl _) (argsL := [(.ref r105)]) (rest := []) (lenOf own_pd8 rfl) rfl (by show 2 * 0 + _ ≤ _; exact Nat.le_of_eq rfl) (hb hby at_173) (fun _ _ => ⟨rfl, e135, (by decide : 11 + 0 ≤ _), (by decide : 26 + 0 ≤ _)⟩)
    dsimp only [Pt.U, Pt.locs, Pt.cells, Pt.slots] at X138 l138 y138 z138 st138 hQ138
    subst l138 y138 z138
    obtain ⟨hQ138, rfl, e138⟩ := hQ138
    try rw [List.append_nil] at X138
    obtain ⟨rfl, -⟩ := own_pickY hQ138 rfl
    refine own_tr (S' := T138.setTop (mkF m 176 #[.val (.int p0), .val (.int p1), .val (.int p2), .val (.int p3), .val (.int p4), .val (.int p5), .val (.int i101), .val (.int i102), .val (.int i103), .val (.int i104), .val (.ref r105), .val (.int i106), .val (.int i107), .val (.ref r110), .val (.ref r113), .val (.ref r116), .val (.ref r132)] [(.int (1 : Int32))])) st138 ?_
    refine own_st (S' := T138.setTop (mkF m 183 #[.val (.int p0), .val (.int p1), .val (.int p2), .val (.int p3), .val (.int p4), .val (.int p5), .val (.int i101), .val (.int i102), .val (.int i103), .val (.int i104), .val (.ref r105), .val (.int i106), .val (.int i107), .val (.ref r110), .val (.ref r113), .val (.ref r116), .val (.ref r132)] [(.ref r113), (.ref r132)])) (fun _ k => XS.ifNo X138.here hx rfl (hb hby at_176) rfl (by decide) (XS.aload X138.here hx rfl (hb hby at_179) rfl rfl (XS.aload X138.here hx rfl (hb hby at_181) rfl rfl k))) ?_
    have A140 : Exa Z h132 r113 "com/example/banyan/banyan/language/Role" := (A120.ext E132)
    have F141 : Fld Z h132 r113 "com/example/banyan/banyan/language/Role" "name" "Ljava/lang/String;" (.ref r105) := (F117.ext E132)
    have F142 : Fld Z h132 r113 "com/example/banyan/banyan/language/Role" "inverse" "Z" (.int (0 : Int32)) := (F127.ext E132)
    obtain ⟨cq143, kq143, q143a, q143b, q143c⟩ := isOf hz110 e138 A132
    obtain ⟨_, _, ⟨T143, L143, k143, n143⟩, -, X143, ⟨Lc143, hQ143, l143, y143, z143⟩, st143⟩ := X138.virtualBack hx (y := (⟨"com/example/banyan/banyan/language/Role", "equals", "(Ljava/lang/Object;)Z"⟩ : MethodName)) (z := (⟨"com/example/banyan/banyan/language/Role", "equals", "(Ljava/lang/Object;)Z"⟩ : MethodName)) ho110 (mvT hz110 (hw _ own_w75)) (mvT hz110 (hw _ own_w76)) (notFace_of_selects (args := #[]) (mvT hz110 (hw _ own_w78))) (mvT hz110 (hw _ own_w78)) (mvT hz110 (hw _ own_w77)) (by decide) (backOf (W := 0) (own_rm_eqi l Z a0 hw G1 S1 P1 hCH hCW [] r132 r113 r105 r105 h132 n0 (Nat.le_trans Z0 (Nat.le_trans (Nat.le_trans (Nat.le_trans (Nat.le_trans E105.1 E110.1) E113.1) E116.1) E132.1)) XO133 Fn132 Fi132 A140 F141 F142) hz110 (hw _ own_w79) (hw _ own_w43) (by decide) (by decide)) q143a q143c (g := (mkF m 183 #[.val (.int p0), .val (.int p1), .val (.int p2), .val (.int p3), .val (.int p4), .val (.int p5), .val (.int i101), .val (.int i102), .val (.int i103), .val (.int i104), .val (.ref r105), .val (.int i106), .val (.int i107), .val (.ref r110), .val (.ref r113), .val (.ref r116), .val (.ref r132)] [(.ref r113), (.ref r132)])) rfl (by rw [hml]; rfl) (Steps.refl _) (argsL := [(.ref r113)]) (rest := []) (lenOf own_pd8 rfl) rfl (by show 2 * 0 + _ ≤ _; exact Nat.le_of_eq rfl) (hb hby at_183) (fun _ _ => ⟨rfl, e138, (by decide : 11 + 0 ≤ _), (by decide : 26 + 0 ≤ _)⟩)
    dsimp only [Pt.U, Pt.locs, Pt.cells, Pt.slots] at X143 l143 y143 z143 st143 hQ143
    subst l143 y143 z143
    obtain ⟨rfl, M143, e143⟩ := hQ143
    have N143 := Fr.app N135 M143
    refine own_tr (S' := T143.setTop (mkF m 186 #[.val (.int p0), .val (.int p1), .val (.int p2), .val (.int p3), .val (.int p4), .val (.int p5), .val (.int i101), .val (.int i102), .val (.int i103), .val (.int i104), .val (.ref r105), .val (.int i106), .val (.int i107), .val (.ref r110), .val (.ref r113), .val (.ref r116), .val (.ref r132)] [(.int (0 : Int32))])) st143 ?_
    refine own_st (S' := T143.setTop (mkF m 194 #[.val (.int p0), .val (.int p1), .val (.int p2), .val (.int p3), .val (.int p4), .val (.int p5), .val (.int i101), .val (.int i102), .val (.int i103), .val (.int i104), .val (.ref r105), .val (.int i106), .val (.int i107), .val (.ref r110), .val (.ref r113), .val (.ref r116), .val (.ref r132)] [(.int (1 : Int32))])) (fun _ k => XS.ifNo X143.here hx rfl (hb hby at_186) rfl (by decide) (XS.iconst X143.here hx rfl (hb hby at_189) (XS.goto X143.here hx rfl (pc0 := 190) (pc' := 194) rfl (hb hby at_190) (by decide) (by decide) k))) ?_
    refine own_retW X143 hx ss110 (by rw [e143]; exact Nat.le_trans (Nat.le_refl _) (Nat.le_trans (Nat.le_trans E113.1 E116.1) E132.1)) Bd.returns hlk rfl (Or.inl ⟨rfl, (by simp), _, rfl⟩) (hb hby at_194) (by decide) (by decide) ?_
    rw [e143]
    exact ⟨rfl, N143⟩
  · refine own_st (S' := T105.setTop (mkF m 72 #[.val (.int p0), .val (.int p1), .val (.int p2), .val (.int p3), .val (.int p4), .val (.int p5), .val (.int i101), .val (.int i102), .val (.int i103), .val (.int i104), .val (.ref r105), .val (.int i106), .val (.int i107), .unset, .unset, .unset, .unset] [(.int i103), (.int i107), (.int i106)])) (fun _ k => XS.ifNo XX105.here hx rfl (hb hby at_63) rfl ((if0 _ _).trans (feq hc108).1) (XS.iload XX105.here hx rfl (hb hby at_66) rfl (XS.iload XX105.here hx rfl (hb hby at_68) rfl (XS.iload XX105.here hx rfl (hb hby at_70) rfl k)))) ?_
    refine own_st (S' := T105.setTop (mkF m 74 #[.val (.int p0), .val (.int p1), .val (.int p2), .val (.int p3), .val (.int p4), .val (.int p5), .val (.int i101), .val (.int i102), .val (.int i103), .val (.int i104), .val (.ref r105), .val (.int i106), .val (.int i107), .unset, .unset, .unset, .unset] [(.int i104), (.int i103), (.int i107), (.int i106)])) (fun _ k => XS.iload XX105.here hx rfl (hb hby at_72) rfl k) ?_
    have XO144 : Old Z n0 h105 := (XO.ext E105)
    obtain ⟨_, _, ⟨T145, L145, k145, n145⟩, -, X145, sn145, sg145, ⟨Lc145, hQ145, l145, y145, z145⟩, st145⟩ := callSS XX105 hx (y := (⟨"com/example/banyan/banyan/language/RoleNamedPinLaw", "str", "(ICCC)Ljava/lang/String;"⟩ : MethodName)) ho105 (mvT hz105 (hw _ own_w0)) (mvT hz105 (hw _ own_w1)) (mvT hz105 (hw _ own_w2)) (mvT hz105 (hw _ own_w3)) (by decide) (own_backS (W := 0) (own_rm_str l Z a0 hw G1 S1 P1 hCH hCW [] i106 i107 i103 i104 h105 n0 (Nat.le_trans Z0 E105.1) XO144 (own_chr gi107) (own_chr gi103) (own_chr gi104)) hz105 (hw _ own_w3) (hw _ own_w2) (by decide) (by decide)) (g := (mkF m 74 #[.val (.int p0), .val (.int p1), .val (.int p2), .val (.int p3), .val (.int p4), .val (.int p5), .val (.int i101), .val (.int i102), .val (.int i103), .val (.int i104), .val (.ref r105), .val (.int i106), .val (.int i107), .unset, .unset, .unset, .unset] [(.int i104), (.int i103), (.int i107), (.int i106)])) rfl (by rw [hml]; rfl) (argsL := [(.int i106), (.int i107), (.int i103), (.int i104)]) (rest := []) (lenOf own_pd9 rfl) rfl (by show 2 * 0 + _ ≤ _; exact Nat.le_of_eq rfl) (hb hby at_74) (fun _ hv => ⟨rfl, e105, (by decide : 4 + 4 ≤ _), (by decide : 10 + 10 ≤ _), LS105.warm hv⟩)
    dsimp only [Pt.U, Pt.locs, Pt.cells, Pt.slots] at X145 l145 y145 z145 st145 hQ145 sn145 sg145
    subst l145 y145 z145
    obtain ⟨XX145, ss145, hz145, ho145⟩ := rebS ss105 (n1 := T105.heap.size) (by rw [e105]; exact Nat.le_trans (Nat.le_refl _) (Nat.le_refl _)) X145 sn145 sg145 hz105 ho105
    obtain ⟨r145, rfl, M145, E145, g145, Y145, LS145⟩ := hQ145
    have N145 := Fr.app N105 M145
    obtain ⟨h145, e145⟩ : ∃ z, T145.heap = z := ⟨_, rfl⟩
    rw [e145] at E145 LS145 ss145 Y145
    refine own_tr (S' := T145.setTop (mkF m 77 #[.val (.int p0), .val (.int p1), .val (.int p2), .val (.int p3), .val (.int p4), .val (.int p5), .val (.int i101), .val (.int i102), .val (.int i103), .val (.int i104), .val (.ref r105), .val (.int i106), .val (.int i107), .unset, .unset, .unset, .unset] [(.ref r145)])) st145 ?_
    refine own_st (S' := T145.setTop (mkF m 95 #[.val (.int p0), .val (.int p1), .val (.int p2), .val (.int p3), .val (.int p4), .val (.int p5), .val (.int i101), .val (.int i102), .val (.int i103), .val (.int i104), .val (.ref r105), .val (.int i106), .val (.int i107), .val (.ref r145), .unset, .unset, .unset] [(.ref r105)])) (fun _ k => XS.goto XX145.here hx rfl (pc0 := 77) (pc' := 91) rfl (hb hby at_77) (by decide) (by decide) (XS.astore XX145.here hx rfl (hb hby at_91) rfl rfl (l' := #[.val (.int p0), .val (.int p1), .val (.int p2), .val (.int p3), .val (.int p4), .val (.int p5), .val (.int i101), .val (.int i102), .val (.int i103), .val (.int i104), .val (.ref r105), .val (.int i106), .val (.int i107), .val (.ref r145), .unset, .unset, .unset]) rfl (XS.aload XX145.here hx rfl (hb hby at_93) rfl rfl k))) ?_
    have A146 : Exa Z h145 r105 "java/lang/String" := (Y105.exa.ext E145)
    have XO147 : Old Z n0 h145 := (XO144.ext E145)
    obtain ⟨_, _, ⟨T148, L148, k148, n148⟩, -, X148, ⟨Lc148, hQ148, l148, y148, z148⟩, st148⟩ := Jvm.LawKit.callS XX145 hx (y := (⟨"com/example/banyan/banyan/language/Role", "named", "(Ljava/lang/String;)Lcom/example/banyan/banyan/language/Role;"⟩ : MethodName)) ho145 (mvT hz145 (hw _ own_w41)) (mvT hz145 (hw _ own_w42)) (mvT hz145 (hw _ own_w43)) (mvT hz145 (hw _ own_w44)) (by decide) (backOf (W := 0) (own_rm_named l Z a0 hw G1 S1 P1 hCH hCW [] r105 h145 n0 (Nat.le_trans Z0 (Nat.le_trans E105.1 E145.1)) XO147 A146) hz145 (hw _ own_w44) (hw _ own_w43) (by decide) (by decide)) (g := (mkF m 95 #[.val (.int p0), .val (.int p1), .val (.int p2), .val (.int p3), .val (.int p4), .val (.int p5), .val (.int i101), .val (.int i102), .val (.int i103), .val (.int i104), .val (.ref r105), .val (.int i106), .val (.int i107), .val (.ref r145), .unset, .unset, .unset] [(.ref r105)])) rfl (by rw [hml]; rfl) (argsL := [(.ref r105)]) (rest := []) (lenOf own_pd10 rfl) rfl (by show 2 * 0 + _ ≤ _; exact Nat.le_of_eq rfl) (hb hby at_95) (fun _ _ => ⟨rfl, e145, (by decide : 8 + 1 ≤ _), (by decide : 20 + 2 ≤ _)⟩)
    dsimp only [Pt.U, Pt.locs, Pt.cells, Pt.slots] at X148 l148 y148 z148 st148 hQ148
    subst l148 y148 z148
    obtain ⟨r148, rfl, M148, E148, g148, A148, Fn148, Fi148⟩ := hQ148
    have N148 := Fr.app N145 M148
    obtain ⟨h148, e148⟩ : ∃ z, T148.heap = z := ⟨_, rfl⟩
    rw [e148] at E148 A148 Fn148 Fi148
    refine own_st (S' := T148.setTop (mkF m 98 #[.val (.int p0), .val (.int p1), .val (.int p2), .val (.int p3), .val (.int p4), .val (.int p5), .val (.int i101), .val (.int i102), .val (.int i103), .val (.int i104), .val (.ref r105), .val (.int i106), .val (.int i107), .val (.ref r145), .unset, .unset, .unset] [(.ref r148)])) st148 ?_
    refine own_st (S' := T148.setTop (mkF m 102 #[.val (.int p0), .val (.int p1), .val (.int p2), .val (.int p3), .val (.int p4), .val (.int p5), .val (.int i101), .val (.int i102), .val (.int i103), .val (.int i104), .val (.ref r105), .val (.int i106), .val (.int i107), .val (.ref r145), .val (.ref r148), .unset, .unset] [(.ref r145)])) (fun _ k => XS.astore X148.here hx rfl (hb hby at_98) rfl rfl (l' := #[.val (.int p0), .val (.int p1), .val (.int p2), .val (.int p3), .val (.int p4), .val (.int p5), .val (.int i101), .val (.int i102), .val (.int i103), .val (.int i104), .val (.ref r105), .val (.int i106), .val (.int i107), .val (.ref r145), .val (.ref r148), .unset, .unset]) rfl (XS.aload X148.here hx rfl (hb hby at_100) rfl rfl k)) ?_
    have A149 : Exa Z h148 r145 "java/lang/String" := (Y145.exa.ext E148)
    have XO150 : Old Z n0 h148 := (XO147.ext E148)
    obtain ⟨_, _, ⟨T151, L151, k151, n151⟩, -, X151, ⟨Lc151, hQ151, l151, y151, z151⟩, st151⟩ := Jvm.LawKit.callS X148 hx (y := (⟨"com/example/banyan/banyan/language/Role", "named", "(Ljava/lang/String;)Lcom/example/banyan/banyan/language/Role;"⟩ : MethodName)) ho145 (mvT hz145 (hw _ own_w41)) (mvT hz145 (hw _ own_w42)) (mvT hz145 (hw _ own_w43)) (mvT hz145 (hw _ own_w44)) (by decide) (backOf (W := 0) (own_rm_named l Z a0 hw G1 S1 P1 hCH hCW [] r145 h148 n0 (Nat.le_trans Z0 (Nat.le_trans (Nat.le_trans E105.1 E145.1) E148.1)) XO150 A149) hz145 (hw _ own_w44) (hw _ own_w43) (by decide) (by decide)) (g := (mkF m 102 #[.val (.int p0), .val (.int p1), .val (.int p2), .val (.int p3), .val (.int p4), .val (.int p5), .val (.int i101), .val (.int i102), .val (.int i103), .val (.int i104), .val (.ref r105), .val (.int i106), .val (.int i107), .val (.ref r145), .val (.ref r148), .unset, .unset] [(.ref r145)])) rfl (by rw [hml]; rfl) (argsL := [(.ref r145)]) (rest := []) (lenOf own_pd10 rfl) rfl (by show 2 * 0 + _ ≤ _; exact Nat.le_of_eq rfl) (hb hby at_102) (fun _ _ => ⟨rfl, e148, (by decide : 9 + 1 ≤ _), (by decide : 22 + 2 ≤ _)⟩)
    dsimp only [Pt.U, Pt.locs, Pt.cells, Pt.slots] at X151 l151 y151 z151 st151 hQ151
    subst l151 y151 z151
    obtain ⟨r151, rfl, M151, E151, g151, A151, Fn151, Fi151⟩ := hQ151
    have N151 := Fr.app N148 M151
    obtain ⟨h151, e151⟩ : ∃ z, T151.heap = z := ⟨_, rfl⟩
    rw [e151] at E151 A151 Fn151 Fi151
    refine own_st (S' := T151.setTop (mkF m 105 #[.val (.int p0), .val (.int p1), .val (.int p2), .val (.int p3), .val (.int p4), .val (.int p5), .val (.int i101), .val (.int i102), .val (.int i103), .val (.int i104), .val (.ref r105), .val (.int i106), .val (.int i107), .val (.ref r145), .val (.ref r148), .unset, .unset] [(.ref r151)])) st151 ?_
    refine own_st (S' := T151.setTop (mkF m 109 #[.val (.int p0), .val (.int p1), .val (.int p2), .val (.int p3), .val (.int p4), .val (.int p5), .val (.int i101), .val (.int i102), .val (.int i103), .val (.int i104), .val (.ref r105), .val (.int i106), .val (.int i107), .val (.ref r145), .val (.ref r148), .val (.ref r151), .unset] [(.ref r148)])) (fun _ k => XS.astore X151.here hx rfl (hb hby at_105) rfl rfl (l' := #[.val (.int p0), .val (.int p1), .val (.int p2), .val (.int p3), .val (.int p4), .val (.int p5), .val (.int i101), .val (.int i102), .val (.int i103), .val (.int i104), .val (.ref r105), .val (.int i106), .val (.int i107), .val (.ref r145), .val (.ref r148), .val (.ref r151), .unset]) rfl (XS.aload X151.here hx rfl (hb hby at_107) rfl rfl k)) ?_
    have F152 : Fld Z h151 r148 "com/example/banyan/banyan/language/Role" "name" "Ljava/lang/String;" (.ref r105) := (Fn148.ext E151)
    have XO153 : Old Z n0 h151 := (XO150.ext E151)
    have A155 : Exa Z h151 r148 "com/example/banyan/banyan/language/Role" := (A148.ext E151)
    obtain ⟨cq154, kq154, q154a, q154b, q154c⟩ := isOf hz145 e151 A155
    obtain ⟨_, _, ⟨T154, L154, k154, n154⟩, -, X154, ⟨Lc154, hQ154, l154, y154, z154⟩, st154⟩ := X151.virtualBack hx (y := (⟨"com/example/banyan/banyan/language/Role", "name", "()Ljava/lang/String;"⟩ : MethodName)) (z := (⟨"com/example/banyan/banyan/language/Role", "name", "()Ljava/lang/String;"⟩ : MethodName)) ho145 (mvT hz145 (hw _ own_w60)) (mvT hz145 (hw _ own_w61)) (notFace_of_selects (args := #[]) (mvT hz145 (hw _ own_w63))) (mvT hz145 (hw _ own_w63)) (mvT hz145 (hw _ own_w62)) (by decide) (backOf (W := 0) (own_rm_name l Z a0 hw G1 S1 P1 hCH hCW [] r148 r105 h151 n0 (Nat.le_trans Z0 (Nat.le_trans (Nat.le_trans (Nat.le_trans E105.1 E145.1) E148.1) E151.1)) XO153 F152) hz145 (hw _ own_w64) (hw _ own_w43) (by decide) (by decide)) q154a q154c (g := (mkF m 109 #[.val (.int p0), .val (.int p1), .val (.int p2), .val (.int p3), .val (.int p4), .val (.int p5), .val (.int i101), .val (.int i102), .val (.int i103), .val (.int i104), .val (.ref r105), .val (.int i106), .val (.int i107), .val (.ref r145), .val (.ref r148), .val (.ref r151), .unset] [(.ref r148)])) rfl (by rw [hml]; rfl) (Steps.refl _) (argsL := []) (rest := []) (lenOf own_pd11 rfl) rfl (by show 2 * 0 + _ ≤ _; exact Nat.le_of_eq rfl) (hb hby at_109) (fun _ _ => ⟨rfl, e151, (by decide : 10 + 0 ≤ _), (by decide : 24 + 0 ≤ _)⟩)
    dsimp only [Pt.U, Pt.locs, Pt.cells, Pt.slots] at X154 l154 y154 z154 st154 hQ154
    subst l154 y154 z154
    obtain ⟨rfl, M154, e154⟩ := hQ154
    have N154 := Fr.app N151 M154
    refine own_tr (S' := T154.setTop (mkF m 112 #[.val (.int p0), .val (.int p1), .val (.int p2), .val (.int p3), .val (.int p4), .val (.int p5), .val (.int i101), .val (.int i102), .val (.int i103), .val (.int i104), .val (.ref r105), .val (.int i106), .val (.int i107), .val (.ref r145), .val (.ref r148), .val (.ref r151), .unset] [(.ref r105)])) st154 ?_
    refine own_st (S' := T154.setTop (mkF m 114 #[.val (.int p0), .val (.int p1), .val (.int p2), .val (.int p3), .val (.int p4), .val (.int p5), .val (.int i101), .val (.int i102), .val (.int i103), .val (.int i104), .val (.ref r105), .val (.int i106), .val (.int i107), .val (.ref r145), .val (.ref r148), .val (.ref r151), .unset] [(.ref r105), (.ref r105)])) (fun _ k => XS.aload X154.here hx rfl (hb hby at_112) rfl rfl k) ?_
    have XE156 : Ext h105 h151 := (own_xt (own_xt E145 E148) E151)
    have G157 : own_Str Z h151 r105 (own_txt i101 i102 i103 i104) := (Y105.ext XE156)
    have S158 : Sta Z h151 "java/lang/String" "COMPACT_STRINGS" "Z" (.int G1) := (S1.ext XO153.2)
    have XE160 : Ext h145 h151 := (own_xt E148 E151)
    have A161 : Exa Z h151 r105 "java/lang/String" := (A146.ext XE160)
    obtain ⟨cq159, kq159, q159a, q159b, q159c⟩ := isOf hz145 e154 A161
    obtain ⟨_, _, ⟨T159, L159, k159, n159⟩, -, X159, ⟨Lc159, hQ159, l159, y159, z159⟩, st159⟩ := X154.virtualBack hx (y := (⟨"java/lang/String", "equals", "(Ljava/lang/Object;)Z"⟩ : MethodName)) (z := (⟨"java/lang/String", "equals", "(Ljava/lang/Object;)Z"⟩ : MethodName)) ho145 (mvT hz145 (hw _ own_w65)) (mvT hz145 (hw _ own_w66)) (notFace_of_selects (args := #[]) (mvT hz145 (hw _ own_w68))) (mvT hz145 (hw _ own_w68)) (mvT hz145 (hw _ own_w67)) (by decide) (own_eqB (W := 0) hz145 hw G157 G157 S158 P1 (by decide) (by decide)) q159a q159c (g := (mkF m 114 #[.val (.int p0), .val (.int p1), .val (.int p2), .val (.int p3), .val (.int p4), .val (.int p5), .val (.int i101), .val (.int i102), .val (.int i103), .val (.int i104), .val (.ref r105), .val (.int i106), .val (.int i107), .val (.ref r145), .val (.ref r148), .val (.ref r151), .unset] [(.ref r105), (.ref r105)])) rfl (by rw [hml]; rfl) (Steps.refl _) (argsL := [(.ref r105)]) (rest := []) (lenOf own_pd8 rfl) rfl (by show 2 * 0 + _ ≤ _; exact Nat.le_of_eq rfl) (hb hby at_114) (fun _ _ => ⟨rfl, e154, (by decide : 10 + 0 ≤ _), (by decide : 24 + 0 ≤ _)⟩)
    dsimp only [Pt.U, Pt.locs, Pt.cells, Pt.slots] at X159 l159 y159 z159 st159 hQ159
    subst l159 y159 z159
    obtain ⟨hQ159, rfl, e159⟩ := hQ159
    try rw [List.append_nil] at X159
    obtain ⟨rfl, -⟩ := own_pickY hQ159 rfl
    refine own_tr (S' := T159.setTop (mkF m 117 #[.val (.int p0), .val (.int p1), .val (.int p2), .val (.int p3), .val (.int p4), .val (.int p5), .val (.int i101), .val (.int i102), .val (.int i103), .val (.int i104), .val (.ref r105), .val (.int i106), .val (.int i107), .val (.ref r145), .val (.ref r148), .val (.ref r151), .unset] [(.int (1 : Int32))])) st159 ?_
    refine own_st (S' := T159.setTop (mkF m 124 #[.val (.int p0), .val (.int p1), .val (.int p2), .val (.int p3), .val (.int p4), .val (.int p5), .val (.int i101), .val (.int i102), .val (.int i103), .val (.int i104), .val (.ref r105), .val (.int i106), .val (.int i107), .val (.ref r145), .val (.ref r148), .val (.ref r151), .unset] [(.ref r148)])) (fun _ k => XS.ifYes X159.here hx rfl (pc0 := 117) (pc' := 122) rfl (hb hby at_117) rfl (by decide) (by decide) (by decide) (XS.aload X159.here hx rfl (hb hby at_122) rfl rfl k)) ?_
    have F162 : Fld Z h151 r148 "com/example/banyan/banyan/language/Role" "inverse" "Z" (.int (0 : Int32)) := (Fi148.ext E151)
    obtain ⟨cq163, kq163, q163a, q163b, q163c⟩ := isOf hz145 e159 A155
    obtain ⟨_, _, ⟨T163, L163, k163, n163⟩, -, X163, ⟨Lc163, hQ163, l163, y163, z163⟩, st163⟩ := X159.virtualBack hx (y := (⟨"com/example/banyan/banyan/language/Role", "isInverse", "()Z"⟩ : MethodName)) (z := (⟨"com/example/banyan/banyan/language/Role", "isInverse", "()Z"⟩ : MethodName)) ho145 (mvT hz145 (hw _ own_w70)) (mvT hz145 (hw _ own_w71)) (notFace_of_selects (args := #[]) (mvT hz145 (hw _ own_w73))) (mvT hz145 (hw _ own_w73)) (mvT hz145 (hw _ own_w72)) (by decide) (backOf (W := 0) (own_rm_isi0 l Z a0 hw G1 S1 P1 hCH hCW [] r148 h151 n0 (Nat.le_trans Z0 (Nat.le_trans (Nat.le_trans (Nat.le_trans E105.1 E145.1) E148.1) E151.1)) XO153 F162) hz145 (hw _ own_w74) (hw _ own_w43) (by decide) (by decide)) q163a q163c (g := (mkF m 124 #[.val (.int p0), .val (.int p1), .val (.int p2), .val (.int p3), .val (.int p4), .val (.int p5), .val (.int i101), .val (.int i102), .val (.int i103), .val (.int i104), .val (.ref r105), .val (.int i106), .val (.int i107), .val (.ref r145), .val (.ref r148), .val (.ref r151), .unset] [(.ref r148)])) rfl (by rw [hml]; rfl) (Steps.refl _) (argsL := []) (rest := []) (lenOf own_pd12 rfl) rfl (by show 2 * 0 + _ ≤ _; exact Nat.le_of_eq rfl) (hb hby at_124) (fun _ _ => ⟨rfl, e159, (by decide : 10 + 0 ≤ _), (by decide : 24 + 0 ≤ _)⟩)
    dsimp only [Pt.U, Pt.locs, Pt.cells, Pt.slots] at X163 l163 y163 z163 st163 hQ163
    subst l163 y163 z163
    obtain ⟨rfl, M163, e163⟩ := hQ163
    have N163 := Fr.app N154 M163
    refine own_tr (S' := T163.setTop (mkF m 127 #[.val (.int p0), .val (.int p1), .val (.int p2), .val (.int p3), .val (.int p4), .val (.int p5), .val (.int i101), .val (.int i102), .val (.int i103), .val (.int i104), .val (.ref r105), .val (.int i106), .val (.int i107), .val (.ref r145), .val (.ref r148), .val (.ref r151), .unset] [(.int (0 : Int32))])) st163 ?_
    refine own_st (S' := T163.setTop (mkF m 136 #[.val (.int p0), .val (.int p1), .val (.int p2), .val (.int p3), .val (.int p4), .val (.int p5), .val (.int i101), .val (.int i102), .val (.int i103), .val (.int i104), .val (.ref r105), .val (.int i106), .val (.int i107), .val (.ref r145), .val (.ref r148), .val (.ref r151), .unset] [(.ref r151), (.ref r148)])) (fun _ k => XS.ifYes X163.here hx rfl (pc0 := 127) (pc' := 132) rfl (hb hby at_127) rfl (by decide) (by decide) (by decide) (XS.aload X163.here hx rfl (hb hby at_132) rfl rfl (XS.aload X163.here hx rfl (hb hby at_134) rfl rfl k))) ?_
    have G164 : own_Str Z h151 r145 (own_txt i106 i107 i103 i104) := (Y145.ext XE160)
    obtain ⟨cq165, kq165, q165a, q165b, q165c⟩ := isOf hz145 e163 A155
    obtain ⟨_, _, ⟨T165, L165, k165, n165⟩, -, X165, ⟨Lc165, hQ165, l165, y165, z165⟩, st165⟩ := X163.virtualBack hx (y := (⟨"com/example/banyan/banyan/language/Role", "equals", "(Ljava/lang/Object;)Z"⟩ : MethodName)) (z := (⟨"com/example/banyan/banyan/language/Role", "equals", "(Ljava/lang/Object;)Z"⟩ : MethodName)) ho145 (mvT hz145 (hw _ own_w75)) (mvT hz145 (hw _ own_w76)) (notFace_of_selects (args := #[]) (mvT hz145 (hw _ own_w78))) (mvT hz145 (hw _ own_w78)) (mvT hz145 (hw _ own_w77)) (by decide) (backOf (W := 0) (own_rm_eqr l Z a0 hw G1 S1 P1 hCH hCW [] r148 r151 r105 r145 (own_txt i101 i102 i103 i104) (own_txt i106 i107 i103 i104) h151 n0 (Nat.le_trans Z0 (Nat.le_trans (Nat.le_trans (Nat.le_trans E105.1 E145.1) E148.1) E151.1)) XO153 F152 F162 A151 Fn151 Fi151 G157 G164) hz145 (hw _ own_w79) (hw _ own_w43) (by decide) (by decide)) q165a q165c (g := (mkF m 136 #[.val (.int p0), .val (.int p1), .val (.int p2), .val (.int p3), .val (.int p4), .val (.int p5), .val (.int i101), .val (.int i102), .val (.int i103), .val (.int i104), .val (.ref r105), .val (.int i106), .val (.int i107), .val (.ref r145), .val (.ref r148), .val (.ref r151), .unset] [(.ref r151), (.ref r148)])) rfl (by rw [hml]; rfl) (Steps.refl _) (argsL := [(.ref r151)]) (rest := []) (lenOf own_pd8 rfl) rfl (by show 2 * 0 + _ ≤ _; exact Nat.le_of_eq rfl) (hb hby at_136) (fun _ _ => ⟨rfl, e163, (by decide : 10 + 0 ≤ _), (by decide : 24 + 0 ≤ _)⟩)
    dsimp only [Pt.U, Pt.locs, Pt.cells, Pt.slots] at X165 l165 y165 z165 st165 hQ165
    subst l165 y165 z165
    obtain ⟨o165, M165, e165⟩ := hQ165
    have N165 := Fr.app N163 M165
    rcases o165 with ⟨rfl, hc165⟩ | ⟨rfl, hc165⟩
    · refine own_tr (S' := T165.setTop (mkF m 139 #[.val (.int p0), .val (.int p1), .val (.int p2), .val (.int p3), .val (.int p4), .val (.int p5), .val (.int i101), .val (.int i102), .val (.int i103), .val (.int i104), .val (.ref r105), .val (.int i106), .val (.int i107), .val (.ref r145), .val (.ref r148), .val (.ref r151), .unset] [(.int (1 : Int32))])) st165 ?_
      refine own_st (S' := T165.setTop (mkF m 143 #[.val (.int p0), .val (.int p1), .val (.int p2), .val (.int p3), .val (.int p4), .val (.int p5), .val (.int i101), .val (.int i102), .val (.int i103), .val (.int i104), .val (.ref r105), .val (.int i106), .val (.int i107), .val (.ref r145), .val (.ref r148), .val (.ref r151), .unset] [(.ref r145), (.ref r105), (.int (1 : Int32))])) (fun _ k => XS.aload X165.here hx rfl (hb hby at_139) rfl rfl (XS.aload X165.here hx rfl (hb hby at_141) rfl rfl k)) ?_
      obtain ⟨cq166, kq166, q166a, q166b, q166c⟩ := isOf hz145 e165 A161
      obtain ⟨_, _, ⟨T166, L166, k166, n166⟩, -, X166, ⟨Lc166, hQ166, l166, y166, z166⟩, st166⟩ := X165.virtualBack hx (y := (⟨"java/lang/String", "equals", "(Ljava/lang/Object;)Z"⟩ : MethodName)) (z := (⟨"java/lang/String", "equals", "(Ljava/lang/Object;)Z"⟩ : MethodName)) ho145 (mvT hz145 (hw _ own_w65)) (mvT hz145 (hw _ own_w66)) (notFace_of_selects (args := #[]) (mvT hz145 (hw _ own_w68))) (mvT hz145 (hw _ own_w68)) (mvT hz145 (hw _ own_w67)) (by decide) (own_eqB (W := 1) hz145 hw G157 G164 S158 P1 (by decide) (by decide)) q166a q166c (g := (mkF m 143 #[.val (.int p0), .val (.int p1), .val (.int p2), .val (.int p3), .val (.int p4), .val (.int p5), .val (.int i101), .val (.int i102), .val (.int i103), .val (.int i104), .val (.ref r105), .val (.int i106), .val (.int i107), .val (.ref r145), .val (.ref r148), .val (.ref r151), .unset] [(.ref r145), (.ref r105), (.int (1 : Int32))])) rfl (by rw [hml]; rfl) (Steps.refl _) (argsL := [(.ref r145)]) (rest := [(.int (1 : Int32))]) (lenOf own_pd8 rfl) rfl (by show 2 * 0 + _ ≤ _; exact Nat.le_of_eq rfl) (hb hby at_143) (fun _ _ => ⟨rfl, e165, (by decide : 10 + 0 ≤ _), (by decide : 24 + 0 ≤ _)⟩)
      dsimp only [Pt.U, Pt.locs, Pt.cells, Pt.slots] at X166 l166 y166 z166 st166 hQ166
      subst l166 y166 z166
      obtain ⟨hQ166, rfl, e166⟩ := hQ166
      try rw [List.append_nil] at X166
      obtain ⟨rfl, -⟩ := own_pickY hQ166 hc165
      refine own_tr (S' := T166.setTop (mkF m 146 #[.val (.int p0), .val (.int p1), .val (.int p2), .val (.int p3), .val (.int p4), .val (.int p5), .val (.int i101), .val (.int i102), .val (.int i103), .val (.int i104), .val (.ref r105), .val (.int i106), .val (.int i107), .val (.ref r145), .val (.ref r148), .val (.ref r151), .unset] [(.int (1 : Int32)), (.int (1 : Int32))])) st166 ?_
      refine own_st (S' := T166.setTop (mkF m 153 #[.val (.int p0), .val (.int p1), .val (.int p2), .val (.int p3), .val (.int p4), .val (.int p5), .val (.int i101), .val (.int i102), .val (.int i103), .val (.int i104), .val (.ref r105), .val (.int i106), .val (.int i107), .val (.ref r145), .val (.ref r148), .val (.ref r151), .unset] [(.ref r148)])) (fun _ k => XS.icmpYes X166.here hx rfl (pc0 := 146) (pc' := 151) rfl (hb hby at_146) rfl (by decide) (by decide) (by decide) (XS.aload X166.here hx rfl (hb hby at_151) rfl rfl k)) ?_
      obtain ⟨cq167, kq167, q167a, q167b, q167c⟩ := isOf hz145 e166 A155
      obtain ⟨_, _, ⟨T167, L167, k167, n167⟩, -, X167, ⟨Lc167, hQ167, l167, y167, z167⟩, st167⟩ := X166.virtualBack hx (y := (⟨"com/example/banyan/banyan/language/Role", "inverse", "()Lcom/example/banyan/banyan/language/Role;"⟩ : MethodName)) (z := (⟨"com/example/banyan/banyan/language/Role", "inverse", "()Lcom/example/banyan/banyan/language/Role;"⟩ : MethodName)) ho145 (mvT hz145 (hw _ own_w85)) (mvT hz145 (hw _ own_w86)) (notFace_of_selects (args := #[]) (mvT hz145 (hw _ own_w88))) (mvT hz145 (hw _ own_w88)) (mvT hz145 (hw _ own_w87)) (by decide) (backOf (W := 0) (own_rm_inv l Z a0 hw G1 S1 P1 hCH hCW [] r148 r105 h151 n0 (Nat.le_trans Z0 (Nat.le_trans (Nat.le_trans (Nat.le_trans E105.1 E145.1) E148.1) E151.1)) XO153 F152 F162) hz145 (hw _ own_w89) (hw _ own_w43) (by decide) (by decide)) q167a q167c (g := (mkF m 153 #[.val (.int p0), .val (.int p1), .val (.int p2), .val (.int p3), .val (.int p4), .val (.int p5), .val (.int i101), .val (.int i102), .val (.int i103), .val (.int i104), .val (.ref r105), .val (.int i106), .val (.int i107), .val (.ref r145), .val (.ref r148), .val (.ref r151), .unset] [(.ref r148)])) rfl (by rw [hml]; rfl) (Steps.refl _) (argsL := []) (rest := []) (lenOf own_pd13 rfl) rfl (by show 2 * 0 + _ ≤ _; exact Nat.le_of_eq rfl) (hb hby at_153) (fun _ _ => ⟨rfl, e166, (by decide : 10 + 1 ≤ _), (by decide : 24 + 2 ≤ _)⟩)
      dsimp only [Pt.U, Pt.locs, Pt.cells, Pt.slots] at X167 l167 y167 z167 st167 hQ167
      subst l167 y167 z167
      obtain ⟨r167, rfl, M167, E167, g167, A167, Fn167, Fi167⟩ := hQ167
      have N167 := Fr.app N165 M167
      obtain ⟨h167, e167⟩ : ∃ z, T167.heap = z := ⟨_, rfl⟩
      rw [e167] at E167 A167 Fn167 Fi167
      refine own_tr (S' := T167.setTop (mkF m 156 #[.val (.int p0), .val (.int p1), .val (.int p2), .val (.int p3), .val (.int p4), .val (.int p5), .val (.int i101), .val (.int i102), .val (.int i103), .val (.int i104), .val (.ref r105), .val (.int i106), .val (.int i107), .val (.ref r145), .val (.ref r148), .val (.ref r151), .unset] [(.ref r167)])) st167 ?_
      refine own_st (S' := T167.setTop (mkF m 160 #[.val (.int p0), .val (.int p1), .val (.int p2), .val (.int p3), .val (.int p4), .val (.int p5), .val (.int i101), .val (.int i102), .val (.int i103), .val (.int i104), .val (.ref r105), .val (.int i106), .val (.int i107), .val (.ref r145), .val (.ref r148), .val (.ref r151), .val (.ref r167)] [(.ref r167)])) (fun _ k => XS.astore X167.here hx rfl (hb hby at_156) rfl rfl (l' := #[.val (.int p0), .val (.int p1), .val (.int p2), .val (.int p3), .val (.int p4), .val (.int p5), .val (.int i101), .val (.int i102), .val (.int i103), .val (.int i104), .val (.ref r105), .val (.int i106), .val (.int i107), .val (.ref r145), .val (.ref r148), .val (.ref r151), .val (.ref r167)]) rfl (XS.aload X167.here hx rfl (hb hby at_158) rfl rfl k)) ?_
      have XO168 : Old Z n0 h167 := (XO153.ext E167)
      obtain ⟨cq169, kq169, q169a, q169b, q169c⟩ := isOf hz145 e167 A167
      obtain ⟨_, _, ⟨T169, L169, k169, n169⟩, -, X169, ⟨Lc169, hQ169, l169, y169, z169⟩, st169⟩ := X167.virtualBack hx (y := (⟨"com/example/banyan/banyan/language/Role", "isInverse", "()Z"⟩ : MethodName)) (z := (⟨"com/example/banyan/banyan/language/Role", "isInverse", "()Z"⟩ : MethodName)) ho145 (mvT hz145 (hw _ own_w70)) (mvT hz145 (hw _ own_w71)) (notFace_of_selects (args := #[]) (mvT hz145 (hw _ own_w73))) (mvT hz145 (hw _ own_w73)) (mvT hz145 (hw _ own_w72)) (by decide) (backOf (W := 0) (own_rm_isi1 l Z a0 hw G1 S1 P1 hCH hCW [] r167 h167 n0 (Nat.le_trans Z0 (Nat.le_trans (Nat.le_trans (Nat.le_trans (Nat.le_trans E105.1 E145.1) E148.1) E151.1) E167.1)) XO168 Fi167) hz145 (hw _ own_w74) (hw _ own_w43) (by decide) (by decide)) q169a q169c (g := (mkF m 160 #[.val (.int p0), .val (.int p1), .val (.int p2), .val (.int p3), .val (.int p4), .val (.int p5), .val (.int i101), .val (.int i102), .val (.int i103), .val (.int i104), .val (.ref r105), .val (.int i106), .val (.int i107), .val (.ref r145), .val (.ref r148), .val (.ref r151), .val (.ref r167)] [(.ref r167)])) rfl (by rw [hml]; rfl) (Steps.refl _) (argsL := []) (rest := []) (lenOf own_pd12 rfl) rfl (by show 2 * 0 + _ ≤ _; exact Nat.le_of_eq rfl) (hb hby at_160) (fun _ _ => ⟨rfl, e167, (by decide : 11 + 0 ≤ _), (by decide : 26 + 0 ≤ _)⟩)
      dsimp only [Pt.U, Pt.locs, Pt.cells, Pt.slots] at X169 l169 y169 z169 st169 hQ169
      subst l169 y169 z169
      obtain ⟨rfl, M169, e169⟩ := hQ169
      have N169 := Fr.app N167 M169
      refine own_tr (S' := T169.setTop (mkF m 163 #[.val (.int p0), .val (.int p1), .val (.int p2), .val (.int p3), .val (.int p4), .val (.int p5), .val (.int i101), .val (.int i102), .val (.int i103), .val (.int i104), .val (.ref r105), .val (.int i106), .val (.int i107), .val (.ref r145), .val (.ref r148), .val (.ref r151), .val (.ref r167)] [(.int (1 : Int32))])) st169 ?_
      refine own_st (S' := T169.setTop (mkF m 168 #[.val (.int p0), .val (.int p1), .val (.int p2), .val (.int p3), .val (.int p4), .val (.int p5), .val (.int i101), .val (.int i102), .val (.int i103), .val (.int i104), .val (.ref r105), .val (.int i106), .val (.int i107), .val (.ref r145), .val (.ref r148), .val (.ref r151), .val (.ref r167)] [(.ref r167)])) (fun _ k => XS.ifNo X169.here hx rfl (hb hby at_163) rfl (by decide) (XS.aload X169.here hx rfl (hb hby at_166) rfl rfl k)) ?_
      obtain ⟨cq170, kq170, q170a, q170b, q170c⟩ := isOf hz145 e169 A167
      obtain ⟨_, _, ⟨T170, L170, k170, n170⟩, -, X170, ⟨Lc170, hQ170, l170, y170, z170⟩, st170⟩ := X169.virtualBack hx (y := (⟨"com/example/banyan/banyan/language/Role", "name", "()Ljava/lang/String;"⟩ : MethodName)) (z := (⟨"com/example/banyan/banyan/language/Role", "name", "()Ljava/lang/String;"⟩ : MethodName)) ho145 (mvT hz145 (hw _ own_w60)) (mvT hz145 (hw _ own_w61)) (notFace_of_selects (args := #[]) (mvT hz145 (hw _ own_w63))) (mvT hz145 (hw _ own_w63)) (mvT hz145 (hw _ own_w62)) (by decide) (backOf (W := 0) (own_rm_name l Z a0 hw G1 S1 P1 hCH hCW [] r167 r105 h167 n0 (Nat.le_trans Z0 (Nat.le_trans (Nat.le_trans (Nat.le_trans (Nat.le_trans E105.1 E145.1) E148.1) E151.1) E167.1)) XO168 Fn167) hz145 (hw _ own_w64) (hw _ own_w43) (by decide) (by decide)) q170a q170c (g := (mkF m 168 #[.val (.int p0), .val (.int p1), .val (.int p2), .val (.int p3), .val (.int p4), .val (.int p5), .val (.int i101), .val (.int i102), .val (.int i103), .val (.int i104), .val (.ref r105), .val (.int i106), .val (.int i107), .val (.ref r145), .val (.ref r148), .val (.ref r151), .val (.ref r167)] [(.ref r167)])) rfl (by rw [hml]; rfl) (Steps.refl _) (argsL := []) (rest := []) (lenOf own_pd11 rfl) rfl (by show 2 * 0 + _ ≤ _; exact Nat.le_of_eq rfl) (hb hby at_168) (fun _ _ => ⟨rfl, e169, (by decide : 11 + 0 ≤ _), (by decide : 26 + 0 ≤ _)⟩)
      dsimp only [Pt.U, Pt.locs, Pt.cells, Pt.slots] at X170 l170 y170 z170 st170 hQ170
      subst l170 y170 z170
      obtain ⟨rfl, M170, e170⟩ := hQ170
      have N170 := Fr.app N169 M170
      refine own_tr (S' := T170.setTop (mkF m 171 #[.val (.int p0), .val (.int p1), .val (.int p2), .val (.int p3), .val (.int p4), .val (.int p5), .val (.int i101), .val (.int i102), .val (.int i103), .val (.int i104), .val (.ref r105), .val (.int i106), .val (.int i107), .val (.ref r145), .val (.ref r148), .val (.ref r151), .val (.ref r167)] [(.ref r105)])) st170 ?_
      refine own_st (S' := T170.setTop (mkF m 173 #[.val (.int p0), .val (.int p1), .val (.int p2), .val (.int p3), .val (.int p4), .val (.int p5), .val (.int i101), .val (.int i102), .val (.int i103), .val (.int i104), .val (.ref r105), .val (.int i106), .val (.int i107), .val (.ref r145), .val (.ref r148), .val (.ref r151), .val (.ref r167)] [(.ref r105), (.ref r105)])) (fun _ k => XS.aload X170.here hx rfl (hb hby at_171) rfl rfl k) ?_
      have G171 : own_Str Z h167 r105 (own_txt i101 i102 i103 i104) := (G157.ext E167)
      have S172 : Sta Z h167 "java/lang/String" "COMPACT_STRINGS" "Z" (.int G1) := (S1.ext XO168.2)
      have A174 : Exa Z h167 r105 "java/lang/String" := (A161.ext E167)
      obtain ⟨cq173, kq173, q173a, q173b, q173c⟩ := isOf hz145 e170 A174
      obtain ⟨_, _, ⟨T173, L173, k173, n173⟩, -, X173, ⟨Lc173, hQ173, l173, y173, z173⟩, st173⟩ := X170.virtualBack hx (y := (⟨"java/lang/String", "equals", "(Ljava/lang/Object;)Z"⟩ : MethodName)) (z := (⟨"java/lang/String", "equals", "(Ljava/lang/Object;)Z"⟩ : MethodName)) ho145 (mvT hz145 (hw _ own_w65)) (mvT hz145 (hw _ own_w66)) (notFace_of_selects (args := #[]) (mvT hz145 (hw _ own_w68))) (mvT hz145 (hw _ own_w68)) (mvT hz145 (hw _ own_w67)) (by decide) (own_eqB (W := 0) hz145 hw G171 G171 S172 P1 (by decide) (by decide)) q173a q173c (g := (mkF m 173 #[.val (.int p0), .val (.int p1), .val (.int p2), .val (.int p3), .val (.int p4), .val (.int p5), .val (.int i101), .val (.int i102), .val (.int i103), .val (.int i104), .val (.ref r105), .val (.int i106), .val (.int i107), .val (.ref r145), .val (.ref r148), .val (.ref r151), .val (.ref r167)] [(.ref r105), (.ref r105)])) rfl (by rw [hml]; rfl) (Steps.refl _) (argsL := [(.ref r105)]) (rest := []) (lenOf own_pd8 rfl) rfl (by show 2 * 0 + _ ≤ _; exact Nat.le_of_eq rfl) (hb hby at_173) (fun _ _ => ⟨rfl, e170, (by decide : 11 + 0 ≤ _), (by decide : 26 + 0 ≤ _)⟩)
      dsimp only [Pt.U, Pt.locs, Pt.cells, Pt.slots] at X173 l173 y173 z173 st173 hQ173
      subst l173 y173 z173
      obtain ⟨hQ173, rfl, e173⟩ := hQ173
      try rw [List.append_nil] at X173
      obtain ⟨rfl, -⟩ := own_pickY hQ173 rfl
      refine own_tr (S' := T173.setTop (mkF m 176 #[.val (.int p0), .val (.int p1), .val (.int p2), .val (.int p3), .val (.int p4), .val (.int p5), .val (.int i101), .val (.int i102), .val (.int i103), .val (.int i104), .val (.ref r105), .val (.int i106), .val (.int i107), .val (.ref r145), .val (.ref r148), .val (.ref r151), .val (.ref r167)] [(.int (1 : Int32))])) st173 ?_
      refine own_st (S' := T173.setTop (mkF m 183 #[.val (.int p0), .val (.int p1), .val (.int p2), .val (.int p3), .val (.int p4), .val (.int p5), .val (.int i101), .val (.int i102), .val (.int i103), .val (.int i104), .val (.ref r105), .val (.int i106), .val (.int i107), .val (.ref r145), .val (.ref r148), .val (.ref r151), .val (.ref r167)] [(.ref r148), (.ref r167)])) (fun _ k => XS.ifNo X173.here hx rfl (hb hby at_176) rfl (by decide) (XS.aload X173.here hx rfl (hb hby at_179) rfl rfl (XS.aload X173.here hx rfl (hb hby at_181) rfl rfl k))) ?_
      have A175 : Exa Z h167 r148 "com/example/banyan/banyan/language/Role" := (A155.ext E167)
      have F176 : Fld Z h167 r148 "com/example/banyan/banyan/language/Role" "name" "Ljava/lang/String;" (.ref r105) := (F152.ext E167)
      have F177 : Fld Z h167 r148 "com/example/banyan/banyan/language/Role" "inverse" "Z" (.int (0 : Int32)) := (F162.ext E167)
      obtain ⟨cq178, kq178, q178a, q178b, q178c⟩ := isOf hz145 e173 A167
      obtain ⟨_, _, ⟨T178, L178, k178, n178⟩, -, X178, ⟨Lc178, hQ178, l178, y178, z178⟩, st178⟩ := X173.virtualBack hx (y := (⟨"com/example/banyan/banyan/language/Role", "equals", "(Ljava/lang/Object;)Z"⟩ : MethodName)) (z := (⟨"com/example/banyan/banyan/language/Role", "equals", "(Ljava/lang/Object;)Z"⟩ : MethodName)) ho145 (mvT hz145 (hw _ own_w75)) (mvT hz145 (hw _ own_w76)) (notFace_of_selects (args := #[]) (mvT hz145 (hw _ own_w78))) (mvT hz145 (hw _ own_w78)) (mvT hz145 (hw _ own_w77)) (by decide) (backOf (W := 0) (own_rm_eqi l Z a0 hw G1 S1 P1 hCH hCW [] r167 r148 r105 r105 h167 n0 (Nat.le_trans Z0 (Nat.le_trans (Nat.le_trans (Nat.le_trans (Nat.le_trans E105.1 E145.1) E148.1) E151.1) E167.1)) XO168 Fn167 Fi167 A175 F176 F177) hz145 (hw _ own_w79) (hw _ own_w43) (by decide) (by decide)) q178a q178c (g := (mkF m 183 #[.val (.int p0), .val (.int p1), .val (.int p2), .val (.int p3), .val (.int p4), .val (.int p5), .val (.int i101), .val (.int i102), .val (.int i103), .val (.int i104), .val (.ref r105), .val (.int i106), .val (.int i107), .val (.ref r145), .val (.ref r148), .val (.ref r151), .val (.ref r167)] [(.ref r148), (.ref r167)])) rfl (by rw [hml]; rfl) (Steps.refl _) (argsL := [(.ref r148)]) (rest := []) (lenOf own_pd8 rfl) rfl (by show 2 * 0 + _ ≤ _; exact Nat.le_of_eq rfl) (hb hby at_183) (fun _ _ => ⟨rfl, e173, (by decide : 11 + 0 ≤ _), (by decide : 26 + 0 ≤ _)⟩)
      dsimp only [Pt.U, Pt.locs, Pt.cells, Pt.slots] at X178 l178 y178 z178 st178 hQ178
      subst l178 y178 z178
      obtain ⟨rfl, M178, e178⟩ := hQ178
      have N178 := Fr.app N170 M178
      refine own_tr (S' := T178.setTop (mkF m 186 #[.val (.int p0), .val (.int p1), .val (.int p2), .val (.int p3), .val (.int p4), .val (.int p5), .val (.int i101), .val (.int i102), .val (.int i103), .val (.int i104), .val (.ref r105), .val (.int i106), .val (.int i107), .val (.ref r145), .val (.ref r148), .val (.ref r151), .val (.ref r167)] [(.int (0 : Int32))])) st178 ?_
      refine own_st (S' := T178.setTop (mkF m 194 #[.val (.int p0), .val (.int p1), .val (.int p2), .val (.int p3), .val (.int p4), .val (.int p5), .val (.int i101), .val (.int i102), .val (.int i103), .val (.int i104), .val (.ref r105), .val (.int i106), .val (.int i107), .val (.ref r145), .val (.ref r148), .val (.ref r151), .val (.ref r167)] [(.int (1 : Int32))])) (fun _ k => XS.ifNo X178.here hx rfl (hb hby at_186) rfl (by decide) (XS.iconst X178.here hx rfl (hb hby at_189) (XS.goto X178.here hx rfl (pc0 := 190) (pc' := 194) rfl (hb hby at_190) (by decide) (by decide) k))) ?_
      refine own_retW X178 hx ss145 (by rw [e178]; exact Nat.le_trans (Nat.le_refl _) (Nat.le_trans (Nat.le_trans E148.1 E151.1) E167.1)) Bd.returns hlk rfl (Or.inl ⟨rfl, (by simp), _, rfl⟩) (hb hby at_194) (by decide) (by decide) ?_
      rw [e178]
      exact ⟨rfl, N178⟩
    · refine own_tr (S' := T165.setTop (mkF m 139 #[.val (.int p0), .val (.int p1), .val (.int p2), .val (.int p3), .val (.int p4), .val (.int p5), .val (.int i101), .val (.int i102), .val (.int i103), .val (.int i104), .val (.ref r105), .val (.int i106), .val (.int i107), .val (.ref r145), .val (.ref r148), .val (.ref r151), .unset] [(.int (0 : Int32))])) st165 ?_
      refine own_st (S' := T165.setTop (mkF m 143 #[.val (.int p0), .val (.int p1), .val (.int p2), .val (.int p3), .val (.int p4), .val (.int p5), .val (.int i101), .val (.int i102), .val (.int i103), .val (.int i104), .val (.ref r105), .val (.int i106), .val (.int i107), .val (.ref r145), .val (.ref r148), .val (.ref r151), .unset] [(.ref r145), (.ref r105), (.int (0 : Int32))])) (fun _ k => XS.aload X165.here hx rfl (hb hby at_139) rfl rfl (XS.aload X165.here hx rfl (hb hby at_141) rfl rfl k)) ?_
      obtain ⟨cq179, kq179, q179a, q179b, q179c⟩ := isOf hz145 e165 A161
      obtain ⟨_, _, ⟨T179, L179, k179, n179⟩, -, X179, ⟨Lc179, hQ179, l179, y179, z179⟩, st179⟩ := X165.virtualBack hx (y := (⟨"java/lang/String", "equals", "(Ljava/lang/Object;)Z"⟩ : MethodName)) (z := (⟨"java/lang/String", "equals", "(Ljava/lang/Object;)Z"⟩ : MethodName)) ho145 (mvT hz145 (hw _ own_w65)) (mvT hz145 (hw _ own_w66)) (notFace_of_selects (args := #[]) (mvT hz145 (hw _ own_w68))) (mvT hz145 (hw _ own_w68)) (mvT hz145 (hw _ own_w67)) (by decide) (own_eqB (W := 1) hz145 hw G157 G164 S158 P1 (by decide) (by decide)) q179a q179c (g := (mkF m 143 #[.val (.int p0), .val (.int p1), .val (.int p2), .val (.int p3), .val (.int p4), .val (.int p5), .val (.int i101), .val (.int i102), .val (.int i103), .val (.int i104), .val (.ref r105), .val (.int i106), .val (.int i107), .val (.ref r145), .val (.ref r148), .val (.ref r151), .unset] [(.ref r145), (.ref r105), (.int (0 : Int32))])) rfl (by rw [hml]; rfl) (Steps.refl _) (argsL := [(.ref r145)]) (rest := [(.int (0 : Int32))]) (lenOf own_pd8 rfl) rfl (by show 2 * 0 + _ ≤ _; exact Nat.le_of_eq rfl) (hb hby at_143) (fun _ _ => ⟨rfl, e165, (by decide : 10 + 0 ≤ _), (by decide : 24 + 0 ≤ _)⟩)
      dsimp only [Pt.U, Pt.locs, Pt.cells, Pt.slots] at X179 l179 y179 z179 st179 hQ179
      subst l179 y179 z179
      obtain ⟨hQ179, rfl, e179⟩ := hQ179
      try rw [List.append_nil] at X179
      obtain ⟨rfl, -⟩ := own_pickN hQ179 hc165
      refine own_tr (S' := T179.setTop (mkF m 146 #[.val (.int p0), .val (.int p1), .val (.int p2), .val (.int p3), .val (.int p4), .val (.int p5), .val (.int i101), .val (.int i102), .val (.int i103), .val (.int i104), .val (.ref r105), .val (.int i106), .val (.int i107), .val (.ref r145), .val (.ref r148), .val (.ref r151), .unset] [(.int (0 : Int32)), (.int (0 : Int32))])) st179 ?_
      refine own_st (S' := T179.setTop (mkF m 153 #[.val (.int p0), .val (.int p1), .val (.int p2), .val (.int p3), .val (.int p4), .val (.int p5), .val (.int i101), .val (.int i102), .val (.int i103), .val (.int i104), .val (.ref r105), .val (.int i106), .val (.int i107), .val (.ref r145), .val (.ref r148), .val (.ref r151), .unset] [(.ref r148)])) (fun _ k => XS.icmpYes X179.here hx rfl (pc0 := 146) (pc' := 151) rfl (hb hby at_146) rfl (by decide) (by decide) (by decide) (XS.aload X179.here hx rfl (hb hby at_151) rfl rfl k)) ?_
      obtain ⟨cq180, kq180, q180a, q180b, q180c⟩ := isOf hz145 e179 A155
      obtain ⟨_, _, ⟨T180, L180, k180, n180⟩, -, X180, ⟨Lc180, hQ180, l180, y180, z180⟩, st180⟩ := X179.virtualBack hx (y := (⟨"com/example/banyan/banyan/language/Role", "inverse", "()Lcom/example/banyan/banyan/language/Role;"⟩ : MethodName)) (z := (⟨"com/example/banyan/banyan/language/Role", "inverse", "()Lcom/example/banyan/banyan/language/Role;"⟩ : MethodName)) ho145 (mvT hz145 (hw _ own_w85)) (mvT hz145 (hw _ own_w86)) (notFace_of_selects (args := #[]) (mvT hz145 (hw _ own_w88))) (mvT hz145 (hw _ own_w88)) (mvT hz145 (hw _ own_w87)) (by decide) (backOf (W := 0) (own_rm_inv l Z a0 hw G1 S1 P1 hCH hCW [] r148 r105 h151 n0 (Nat.le_trans Z0 (Nat.le_trans (Nat.le_trans (Nat.le_trans E105.1 E145.1) E148.1) E151.1)) XO153 F152 F162) hz145 (hw _ own_w89) (hw _ own_w43) (by decide) (by decide)) q180a q180c (g := (mkF m 153 #[.val (.int p0), .val (.int p1), .val (.int p2), .val (.int p3), .val (.int p4), .val (.int p5), .val (.int i101), .val (.int i102), .val (.int i103), .val (.int i104), .val (.ref r105), .val (.int i106), .val (.int i107), .val (.ref r145), .val (.ref r148), .val (.ref r151), .unset] [(.ref r148)])) rfl (by rw [hml]; rfl) (Steps.refl _) (argsL := []) (rest := []) (lenOf own_pd13 rfl) rfl (by show 2 * 0 + _ ≤ _; exact Nat.le_of_eq rfl) (hb hby at_153) (fun _ _ => ⟨rfl, e179, (by decide : 10 + 1 ≤ _), (by decide : 24 + 2 ≤ _)⟩)
      dsimp only [Pt.U, Pt.locs, Pt.cells, Pt.slots] at X180 l180 y180 z180 st180 hQ180
      subst l180 y180 z180
      obtain ⟨r180, rfl, M180, E180, g180, A180, Fn180, Fi180⟩ := hQ180
      have N180 := Fr.app N165 M180
      obtain ⟨h180, e180⟩ : ∃ z, T180.heap = z := ⟨_, rfl⟩
      rw [e180] at E180 A180 Fn180 Fi180
      refine own_tr (S' := T180.setTop (mkF m 156 #[.val (.int p0), .val (.int p1), .val (.int p2), .val (.int p3), .val (.int p4), .val (.int p5), .val (.int i101), .val (.int i102), .val (.int i103), .val (.int i104), .val (.ref r105), .val (.int i106), .val (.int i107), .val (.ref r145), .val (.ref r148), .val (.ref r151), .unset] [(.ref r180)])) st180 ?_
      refine own_st (S' := T180.setTop (mkF m 160 #[.val (.int p0), .val (.int p1), .val (.int p2), .val (.int p3), .val (.int p4), .val (.int p5), .val (.int i101), .val (.int i102), .val (.int i103), .val (.int i104), .val (.ref r105), .val (.int i106), .val (.int i107), .val (.ref r145), .val (.ref r148), .val (.ref r151), .val (.ref r180)] [(.ref r180)])) (fun _ k => XS.astore X180.here hx rfl (hb hby at_156) rfl rfl (l' := #[.val (.int p0), .val (.int p1), .val (.int p2), .val (.int p3), .val (.int p4), .val (.int p5), .val (.int i101), .val (.int i102), .val (.int i103), .val (.int i104), .val (.ref r105), .val (.int i106), .val (.int i107), .val (.ref r145), .val (.ref r148), .val (.ref r151), .val (.ref r180)]) rfl (XS.aload X180.here hx rfl (hb hby at_158) rfl rfl k)) ?_
      have XO181 : Old Z n0 h180 := (XO153.ext E180)
      obtain ⟨cq182, kq182, q182a, q182b, q182c⟩ := isOf hz145 e180 A180
      obtain ⟨_, _, ⟨T182, L182, k182, n182⟩, -, X182, ⟨Lc182, hQ182, l182, y182, z182⟩, st182⟩ := X180.virtualBack hx (y := (⟨"com/example/banyan/banyan/language/Role", "isInverse", "()Z"⟩ : MethodName)) (z := (⟨"com/example/banyan/banyan/language/Role", "isInverse", "()Z"⟩ : MethodName)) ho145 (mvT hz145 (hw _ own_w70)) (mvT hz145 (hw _ own_w71)) (notFace_of_selects (args := #[]) (mvT hz145 (hw _ own_w73))) (mvT hz145 (hw _ own_w73)) (mvT hz145 (hw _ own_w72)) (by decide) (backOf (W := 0) (own_rm_isi1 l Z a0 hw G1 S1 P1 hCH hCW [] r180 h180 n0 (Nat.le_trans Z0 (Nat.le_trans (Nat.le_trans (Nat.le_trans (Nat.le_trans E105.1 E145.1) E148.1) E151.1) E180.1)) XO181 Fi180) hz145 (hw _ own_w74) (hw _ own_w43) (by decide) (by decide)) q182a q182c (g := (mkF m 160 #[.val (.int p0), .val (.int p1), .val (.int p2), .val (.int p3), .val (.int p4), .val (.int p5), .val (.int i101), .val (.int i102), .val (.int i103), .val (.int i104), .val (.ref r105), .val (.int i106), .val (.int i107), .val (.ref r145), .val (.ref r148), .val (.ref r151), .val (.ref r180)] [(.ref r180)])) rfl (by rw [hml]; rfl) (Steps.refl _) (argsL := []) (rest := []) (lenOf own_pd12 rfl) rfl (by show 2 * 0 + _ ≤ _; exact Nat.le_of_eq rfl) (hb hby at_160) (fun _ _ => ⟨rfl, e180, (by decide : 11 + 0 ≤ _), (by decide : 26 + 0 ≤ _)⟩)
      dsimp only [Pt.U, Pt.locs, Pt.cells, Pt.slots] at X182 l182 y182 z182 st182 hQ182
      subst l182 y182 z182
      obtain ⟨rfl, M182, e182⟩ := hQ182
      have N182 := Fr.app N180 M182
      refine own_tr (S' := T182.setTop (mkF m 163 #[.val (.int p0), .val (.int p1), .val (.int p2), .val (.int p3), .val (.int p4), .val (.int p5), .val (.int i101), .val (.int i102), .val (.int i103), .val (.int i104), .val (.ref r105), .val (.int i106), .val (.int i107), .val (.ref r145), .val (.ref r148), .val (.ref r151), .val (.ref r180)] [(.int (1 : Int32))])) st182 ?_
      refine own_st (S' := T182.setTop (mkF m 168 #[.val (.int p0), .val (.int p1), .val (.int p2), .val (.int p3), .val (.int p4), .val (.int p5), .val (.int i101), .val (.int i102), .val (.int i103), .val (.int i104), .val (.ref r105), .val (.int i106), .val (.int i107), .val (.ref r145), .val (.ref r148), .val (.ref r151), .val (.ref r180)] [(.ref r180)])) (fun _ k => XS.ifNo X182.here hx rfl (hb hby at_163) rfl (by decide) (XS.aload X182.here hx rfl (hb hby at_166) rfl rfl k)) ?_
      obtain ⟨cq183, kq183, q183a, q183b, q183c⟩ := isOf hz145 e182 A180
      obtain ⟨_, _, ⟨T183, L183, k183, n183⟩, -, X183, ⟨Lc183, hQ183, l183, y183, z183⟩, st183⟩ := X182.virtualBack hx (y := (⟨"com/example/banyan/banyan/language/Role", "name", "()Ljava/lang/String;"⟩ : MethodName)) (z := (⟨"com/example/banyan/banyan/language/Role", "name", "()Ljava/lang/String;"⟩ : MethodName)) ho145 (mvT hz145 (hw _ own_w60)) (mvT hz145 (hw _ own_w61)) (notFace_of_selects (args := #[]) (mvT hz145 (hw _ own_w63))) (mvT hz145 (hw _ own_w63)) (mvT hz145 (hw _ own_w62)) (by decide) (backOf (W := 0) (own_rm_name l Z a0 hw G1 S1 P1 hCH hCW [] r180 r105 h180 n0 (Nat.le_trans Z0 (Nat.le_trans (Nat.le_trans (Nat.le_trans (Nat.le_trans E105.1 E145.1) E148.1) E151.1) E180.1)) XO181 Fn180) hz145 (hw _ own_w64) (hw _ own_w43) (by decide) (by decide)) q183a q183c (g := (mkF m 168 #[.val (.int p0), .val (.int p1), .val (.int p2), .val (.int p3), .val (.int p4), .val (.int p5), .val (.int i101), .val (.int i102), .val (.int i103), .val (.int i104), .val (.ref r105), .val (.int i106), .val (.int i107), .val (.ref r145), .val (.ref r148), .val (.ref r151), .val (.ref r180)] [(.ref r180)])) rfl (by rw [hml]; rfl) (Steps.refl _) (argsL := []) (rest := []) (lenOf own_pd11 rfl) rfl (by show 2 * 0 + _ ≤ _; exact Nat.le_of_eq rfl) (hb hby at_168) (fun _ _ => ⟨rfl, e182, (by decide : 11 + 0 ≤ _), (by decide : 26 + 0 ≤ _)⟩)
      dsimp only [Pt.U, Pt.locs, Pt.cells, Pt.slots] at X183 l183 y183 z183 st183 hQ183
      subst l183 y183 z183
      obtain ⟨rfl, M183, e183⟩ := hQ183
      have N183 := Fr.app N182 M183
      refine own_tr (S' := T183.setTop (mkF m 171 #[.val (.int p0), .val (.int p1), .val (.int p2), .val (.int p3), .val (.int p4), .val (.int p5), .val (.int i101), .val (.int i102), .val (.int i103), .val (.int i104), .val (.ref r105), .val (.int i106), .val (.int i107), .val (.ref r145), .val (.ref r148), .val (.ref r151), .val (.ref r180)] [(.ref r105)])) st183 ?_
      refine own_st (S' := T183.setTop (mkF m 173 #[.val (.int p0), .val (.int p1), .val (.int p2), .val (.int p3), .val (.int p4), .val (.int p5), .val (.int i101), .val (.int i102), .val (.int i103), .val (.int i104), .val (.ref r105), .val (.int i106), .val (.int i107), .val (.ref r145), .val (.ref r148), .val (.ref r151), .val (.ref r180)] [(.ref r105), (.ref r105)])) (fun _ k => XS.aload X183.here hx rfl (hb hby at_171) rfl rfl k) ?_
      have G184 : own_Str Z h180 r105 (own_txt i101 i102 i103 i104) := (G157.ext E180)
      have S185 : Sta Z h180 "java/lang/String" "COMPACT_STRINGS" "Z" (.int G1) := (S1.ext XO181.2)
      have A187 : Exa Z h180 r105 "java/lang/String" := (A161.ext E180)
      obtain ⟨cq186, kq186, q186a, q186b, q186c⟩ := isOf hz145 e183 A187
      obtain ⟨_, _, ⟨T186, L186, k186, n186⟩, -, X186, ⟨Lc186, hQ186, l186, y186, z186⟩, st186⟩ := X183.virtualBack hx (y := (⟨"java/lang/String", "equals", "(Ljava/lang/Object;)Z"⟩ : MethodName)) (z := (⟨"java/lang/String", "equals", "(Ljava/lang/Object;)Z"⟩ : MethodName)) ho145 (mvT hz145 (hw _ own_w65)) (mvT hz145 (hw _ own_w66)) (notFace_of_selects (args := #[]) (mvT hz145 (hw _ own_w68))) (mvT hz145 (hw _ own_w68)) (mvT hz145 (hw _ own_w67)) (by decide) (own_eqB (W := 0) hz145 hw G184 G184 S185 P1 (by decide) (by decide)) q186a q186c (g := (mkF m 173 #[.val (.int p0), .val (.int p1), .val (.int p2), .val (.int p3), .val (.int p4), .val (.int p5), .val (.int i101), .val (.int i102), .val (.int i103), .val (.int i104), .val (.ref r105), .val (.int i106), .val (.int i107), .val (.ref r145), .val (.ref r148), .val (.ref r151), .val (.ref r180)] [(.ref r105), (.ref r105)])) rfl (by rw [hml]; rfl) (Steps.refl _) (argsL := [(.ref r105)]) (rest := []) (lenOf own_pd8 rfl) rfl (by show 2 * 0 + _ ≤ _; exact Nat.le_of_eq rfl) (hb hby at_173) (fun _ _ => ⟨rfl, e183, (by decide : 11 + 0 ≤ _), (by decide : 26 + 0 ≤ _)⟩)
      dsimp only [Pt.U, Pt.locs, Pt.cells, Pt.slots] at X186 l186 y186 z186 st186 hQ186
      subst l186 y186 z186
      obtain ⟨hQ186, rfl, e186⟩ := hQ186
      try rw [List.append_nil] at X186
      obtain ⟨rfl, -⟩ := own_pickY hQ186 rfl
      refine own_tr (S' := T186.setTop (mkF m 176 #[.val (.int p0), .val (.int p1), .val (.int p2), .val (.int p3), .val (.int p4), .val (.int p5), .val (.int i101), .val (.int i102), .val (.int i103), .val (.int i104), .val (.ref r105), .val (.int i106), .val (.int i107), .val (.ref r145), .val (.ref r148), .val (.ref r151), .val (.ref r180)] [(.int (1 : Int32))])) st186 ?_
      refine own_st (S' := T186.setTop (mkF m 183 #[.val (.int p0), .val (.int p1), .val (.int p2), .val (.int p3), .val (.int p4), .val (.int p5), .val (.int i101), .val (.int i102), .val (.int i103), .val (.int i104), .val (.ref r105), .val (.int i106), .val (.int i107), .val (.ref r145), .val (.ref r148), .val (.ref r151), .val (.ref r180)] [(.ref r148), (.ref r180)])) (fun _ k => XS.ifNo X186.here hx rfl (hb hby at_176) rfl (by decide) (XS.aload X186.here hx rfl (hb hby at_179) rfl rfl (XS.aload X186.here hx rfl (hb hby at_181) rfl rfl k))) ?_
      have A188 : Exa Z h180 r148 "com/example/banyan/banyan/language/Role" := (A155.ext E180)
      have F189 : Fld Z h180 r148 "com/example/banyan/banyan/language/Role" "name" "Ljava/lang/String;" (.ref r105) := (F152.ext E180)
      have F190 : Fld Z h180 r148 "com/example/banyan/banyan/language/Role" "inverse" "Z" (.int (0 : Int32)) := (F162.ext E180)
      obtain ⟨cq191, kq191, q191a, q191b, q191c⟩ := isOf hz145 e186 A180
      obtain ⟨_, _, ⟨T191, L191, k191, n191⟩, -, X191, ⟨Lc191, hQ191, l191, y191, z191⟩, st191⟩ := X186.virtualBack hx (y := (⟨"com/example/banyan/banyan/language/Role", "equals", "(Ljava/lang/Object;)Z"⟩ : MethodName)) (z := (⟨"com/example/banyan/banyan/language/Role", "equals", "(Ljava/lang/Object;)Z"⟩ : MethodName)) ho145 (mvT hz145 (hw _ own_w75)) (mvT hz145 (hw _ own_w76)) (notFace_of_selects (args := #[]) (mvT hz145 (hw _ own_w78))) (mvT hz145 (hw _ own_w78)) (mvT hz145 (hw _ own_w77)) (by decide) (backOf (W := 0) (own_rm_eqi l Z a0 hw G1 S1 P1 hCH hCW [] r180 r148 r105 r105 h180 n0 (Nat.le_trans Z0 (Nat.le_trans (Nat.le_trans (Nat.le_trans (Nat.le_trans E105.1 E145.1) E148.1) E151.1) E180.1)) XO181 Fn180 Fi180 A188 F189 F190) hz145 (hw _ own_w79) (hw _ own_w43) (by decide) (by decide)) q191a q191c (g := (mkF m 183 #[.val (.int p0), .val (.int p1), .val (.int p2), .val (.int p3), .val (.int p4), .val (.int p5), .val (.int i101), .val (.int i102), .val (.int i103), .val (.int i104), .val (.ref r105), .val (.int i106), .val (.int i107), .val (.ref r145), .val (.ref r148), .val (.ref r151), .val (.ref r180)] [(.ref r148), (.ref r180)])) rfl (by rw [hml]; rfl) (Steps.refl _) (argsL := [(.ref r148)]) (rest := []) (lenOf own_pd8 rfl) rfl (by show 2 * 0 + _ ≤ _; exact Nat.le_of_eq rfl) (hb hby at_183) (fun _ _ => ⟨rfl, e186, (by decide : 11 + 0 ≤ _), (by decide : 26 + 0 ≤ _)⟩)
      dsimp only [Pt.U, Pt.locs, Pt.cells, Pt.slots] at X191 l191 y191 z191 st191 hQ191
      subst l191 y191 z191
      obtain ⟨rfl, M191, e191⟩ := hQ191
      have N191 := Fr.app N183 M191
      refine own_tr (S' := T191.setTop (mkF m 186 #[.val (.int p0), .val (.int p1), .val (.int p2), .val (.int p3), .val (.int p4), .val (.int p5), .val (.int i101), .val (.int i102), .val (.int i103), .val (.int i104), .val (.ref r105), .val (.int i106), .val (.int i107), .val (.ref r145), .val (.ref r148), .val (.ref r151), .val (.ref r180)] [(.int (0 : Int32))])) st191 ?_
      refine own_st (S' := T191.setTop (mkF m 194 #[.val (.int p0), .val (.int p1), .val (.int p2), .val (.int p3), .val (.int p4), .val (.int p5), .val (.int i101), .val (.int i102), .val (.int i103), .val (.int i104), .val (.ref r105), .val (.int i106), .val (.int i107), .val (.ref r145), .val (.ref r148), .val (.ref r151), .val (.ref r180)] [(.int (1 : Int32))])) (fun _ k => XS.ifNo X191.here hx rfl (hb hby at_186) rfl (by decide) (XS.iconst X191.here hx rfl (hb hby at_189) (XS.goto X191.here hx rfl (pc0 := 190) (pc' := 194) rfl (hb hby at_190) (by decide) (by decide) k))) ?_
      refine own_retW X191 hx ss145 (by rw [e191]; exact Nat.le_trans (Nat.le_refl _) (Nat.le_trans (Nat.le_trans E148.1 E151.1) E180.1)) Bd.returns hlk rfl (Or.inl ⟨rfl, (by simp), _, rfl⟩) (hb hby at_194) (by decide) (by decide) ?_
      rw [e191]
      exact ⟨rfl, N191⟩
section OwnCase
variable {args : Array Value} {s : State} {a b t : Term} {v w : Value} {x : Addr}
theorem own_ev (h : (Cond.eq a b).value args s none s [] = some true) (hb : b.eval args s none [] s = some w) (hw : (∃ z, w = .int z) ∨ w.isRef = true) : a.eval args s none [] s = some w := by
  cases ha : a.eval args s none [] s with
  | none => simp [Cond.value, ha] at h
  | some v =>
    rcases hw with ⟨z, rfl⟩ | hw
    · cases v <;> simp_all [Cond.value]
    · cases v <;> cases w <;> simp_all [Cond.value, Value.isRef]
theorem own_exa {C : String} (h : (Cond.exactly t C).value args s none s [] = some true) : ∃ x, t.eval args s none [] s = some (.ref x) ∧ Exa s s.heap x C := by
  obtain ⟨x, hx⟩ := exa_v h
  exact ⟨x, hx, Exa.start hx h⟩
theorem own_exA {C : String} (hx : t.eval args s none [] s = some (.ref x)) (h : (Cond.exactly t C).value args s none s [] = some true) : Exa s s.heap x C := Exa.start hx h
theorem own_fld {C n d : String} (ht : t.eval args s none [] s = some (.ref x)) (h : (Term.field t C n d).eval args s none [] s = some v) : Fld s s.heap x C n d v := Fld.start (by rw [← fld_at ht]; exact h)
def own_Els (args : Array Value) (s : State) (t : Term) : Nat → List Value → Prop
  | _, [] => True
  | i, v :: r => (Term.elem t (Term.int (Int32.ofNat i))).eval args s none [] s = some v ∧ own_Els args s t (i + 1) r
theorem own_hasL {cl : Cell} (ht : t.eval args s none [] s = some (.ref x)) (hc : s.heap[x]? = some cl) : ∀ (vs : List Value) (i : Nat), i + vs.length < 2 ^ 31 → own_Els args s t i vs → HasL cl i vs
  | [], _, _, _ => trivial
  | v :: r, i, hi, H => by
    have hi' : i < 2 ^ 31 := by simp only [List.length_cons] at hi; omega
    have q := (elem_in H.1 ht (Term.int_eval _) hc).2
    have e : (Int32.ofNat i).toNatClampNeg = i := by
      have := Int32.toInt_ofNat_small hi'
      simp only [Int32.toNatClampNeg, this]; omega
    rw [e] at q
    exact ⟨q, own_hasL ht hc r (i + 1) (by simp only [List.length_cons] at hi; omega) H.2⟩
theorem own_arv {ty : FieldType} {z : Int32} {vs : List Value} {dv : Value} (hf : Fit s) (ht : t.eval args s none [] s = some (.ref x)) (hA : (Cond.arrayOf t ty).value args s none s [] = some true) (hL : (Cond.eq (Term.length t) (Term.int z)).value args s none s [] = some true) (hz : ¬ z < 0) (hl : z.toNatClampNeg = vs.length) (hE : own_Els args s t 0 vs) : ∃ k, Arv s s.heap x k ty z vs dv := by
  obtain ⟨c, A⟩ := Arr.start ht hA
  have hlen := own_ev hL (Term.int_eval z) (Or.inl ⟨_, rfl⟩)
  have hat : s.arrayAt? x = some c := A.fin (Vm.Alike.refl _)
  have hb : c.slots.size < 2 ^ 31 ∧ c.slots.size.toInt32 = z := by
    simp only [Term.eval, ht, hat, Option.bind_eq_bind, Option.bind_some] at hlen
    split at hlen
    · rename_i hq
      refine ⟨hq, ?_⟩
      simpa using hlen
    · cases hlen
  have hv : 0 + vs.length < 2 ^ 31 := by
    have := (back32 hz).2; omega
  exact ⟨_, Arv.start hf A hb.1 hb.2 hz hl (own_hasL ht A.1 vs 0 hv hE)⟩
theorem own_neq {y : Addr} (h : (Cond.not (Cond.eq a b)).value args s none s [] = some true) (ha : a.eval args s none [] s = some (.ref x)) (hb : b.eval args s none [] s = some (.ref y)) : x ≠ y := fun q => by
  have := not_v h
  rw [eq_R ha hb rfl rfl] at this
  simp [q] at this
end OwnCase
set_option maxRecDepth 65536 in
set_option maxHeartbeats 40000000 in
theorem comes_1 {Post : Tables → Env → Array Value → State → Outcome → State → Prop} (hpost : ∀ tb e args s v u, (limb_1_1.after args s (.returned v) u = true ∧ limb_1_2.after args s (.returned v) u = true ∧ True) → ReturnedEndW s (.returned v) u (Jvm.fieldLocs frame_1_writes args s ++ Jvm.arrayLocs frame_1_arrays args s ++ Jvm.staticLocs frame_1_statics s) 32 1152 → Post tb e args s (.returned v) u) :
    ArmFor flags0 classFile x code maxLocals ret World_1 tables_1 room_1 Calls_1 rest_1 Pre_1 Post := by
  intro l hfl _ _ p e ha hc hk s m args below hf hA hF happ hP
  obtain ⟨hcalls, hrest, hpre⟩ := hP
  obtain ⟨-, -, -, hnamed, -, -, -, hat⟩ := (Spec.applies_iff hf).mp happ
  obtain ⟨hg, hn⟩ := and_e (Cond.before_iff.mp (show (Jvm.Cond.and given_1 narrow_1).before args s = true from hpre))
  obtain ⟨hcnt, hargs⟩ := and_e hg
  obtain ⟨w0, w1, w2, w3, w4, w5, rfl⟩ : ∃ w0 w1 w2 w3 w4 w5 : Value, args = #[w0, w1, w2, w3, w4, w5] := by
    have hs : args.size = 6 := by simpa [Cond.value, given_1] using hcnt
    obtain ⟨L⟩ := args
    match L, hs with
    | [w0, w1, w2, w3, w4, w5], _ => exact ⟨w0, w1, w2, w3, w4, w5, rfl⟩
  have hw := fun d (hd : d ∈ tables_1) => atoms_spec (ws := Jvm.Cond.code x code maxLocals ret :: tables_1) hat d (List.mem_cons_of_mem _ hd)
  obtain ⟨hsets, hown0⟩ := atoms_of _ (rest_1_c_eq ▸ (show rest_1_c.before _ s = true from hrest))
  have hfit : Fit s := fun {y c} hc i hi => by
    obtain ⟨ha, rfl⟩ := Array.getElem?_eq_some_iff.mp hc
    have q := List.all_eq_true.mp ((Array.all_eq_true_iff_forall_mem.mp hF) _ (Array.getElem_mem ha)) i (List.mem_range.mpr hi)
    simpa [Array.getElem?_eq_getElem hi] using q
  obtain ⟨ga0, gb0⟩ := and_e hargs
  obtain ⟨i0, ei0⟩ := is_v ga0
  obtain rfl : w0 = (.int i0) := Option.some.inj ei0
  obtain ⟨ga1, gb1⟩ := and_e gb0
  obtain ⟨i1, ei1⟩ := is_v ga1
  obtain rfl : w1 = (.int i1) := Option.some.inj ei1
  obtain ⟨ga2, gb2⟩ := and_e gb1
  obtain ⟨i2, ei2⟩ := is_v ga2
  obtain rfl : w2 = (.int i2) := Option.some.inj ei2
  obtain ⟨ga3, gb3⟩ := and_e gb2
  obtain ⟨i3, ei3⟩ := is_v ga3
  obtain rfl : w3 = (.int i3) := Option.some.inj ei3
  obtain ⟨ga4, gb4⟩ := and_e gb3
  obtain ⟨i4, ei4⟩ := is_v ga4
  obtain rfl : w4 = (.int i4) := Option.some.inj ei4
  obtain ⟨i5, ei5⟩ := is_v gb4
  obtain rfl : w5 = (.int i5) := Option.some.inj ei5
  obtain ⟨G1, eG1⟩ := is_v (Cond.before_iff.mp (hsets _ (List.mem_of_getElem? (i := 1) rfl)))
  have S1 := Sta.start (C := "java/lang/String") (n := "COMPACT_STRINGS") (d := "Z") eG1 (Or.inl (hsets _ (List.mem_of_getElem? (i := 0) rfl)))
  have P1 : ¬ (G1 = (0 : Int32)) := gotF (Cond.eq_ints eG1 (Term.int_eval (0))) (not_v (Cond.before_iff.mp (hsets _ (List.mem_of_getElem? (i := 2) rfl))))
  have hCH : Jvm.Lit.constHeld s "java/lang/String" 7 := hcalls.1 ("java/lang/String", 7) (List.mem_cons_self ..)
  have hCW : Jvm.Lit.compactW.before #[.int i0, .int i1, .int i2, .int i3, .int i4, .int i5] s = true := hsets _ (List.mem_of_getElem? (i := 2) rfl)
  obtain ⟨n, o, h1, h2, h3, _, L, rfl, ⟨rfl, N⟩, hq⟩ := own_rm_law l s _ hw G1 S1 P1 hCH hCW tables_1 i0 i1 i2 i3 i4 i5 s.heap s.heap.size (Nat.le_refl _) (Old.start s) p e ha hc hk s m _ below hf ((Spec.applies_iff_loose hf).mp happ).1 ⟨rfl, State.Warmed39.refl s, rfl, Or.inl IB.start⟩ trivial
  refine ⟨n, _, h1, h2, h3, hpost _ _ _ _ _ _ ⟨Cond.after_iff.mpr rfl, Cond.after_iff.mpr (eq_i res_at (Term.int_eval (1)) rfl), trivial⟩ ⟨hq.1, hq.2.1, hq.2.2.1, (hq.2.2.2.sift fun y hy => Or.inr (N y hy)).mono (by decide) (by decide)⟩⟩
theorem main_1_1 : Claimed_1_1 := comes_1 fun _ _ _ _ _ _ h hF => ⟨h.1, hF⟩
theorem main_1_2 : Claimed_1_2 := comes_1 fun _ _ _ _ _ _ h hF => ⟨h.2.1, hF⟩
end Jvm.Pilot.@@N@@
namespace Jvm.Pilot.@@N@@
open Jvm Jvm.ClassFile Sem Op Lib Jvm.Free Jvm.Stand Jvm.Pilot.@@N@@.Jvm.D
/-! MADE BY PROGRAM (witnessworld.py) out of the Statement's table words and the real class files: 21 classes; the members and pool entries that the words name. The judged class is class 1, her method 2. -/
namespace start1
open Jvm.ClassFile
def u (s : String) : CpInfo := .utf8 (stringToUtf16 s)
/-- a pool by its gaps: so many unusable entries, then the entry; so many at the end -/
def gap : Nat → List CpInfo → List CpInfo
  | 0, r => r
  | n + 1, r => .unusable :: gap n r
def poolList (es : List (Nat × CpInfo)) (last : Nat) : List CpInfo := es.foldr (fun e r => gap e.1 (e.2 :: r)) (gap last [])
def pool (es : List (Nat × CpInfo)) (last : Nat) : Array CpInfo := ⟨poolList es last⟩
def fileOf (pool : Array CpInfo) (this : Nat) (attrs : Array Attribute := #[]) (ms : Array MethodInfo := #[]) (fl : Nat := 33) (sup : Nat := 0) (ifs : Array Nat := #[]) (fds : Array FieldInfo := #[]) : ClassFile where
  minorVersion := 0
  majorVersion := 65
  constantPool := pool
  accessFlags := fl
  thisClass := this
  superClass := sup
  interfaces := ifs
  fields := fds
  methods := ms
  attributes := attrs
def plain (name : String) (sup : Option ClassId) : Class where
  name := name
  kind := .ordinary
  loader := none
  accessFlags := 33
  super := sup
  interfaces := #[]
  cf := none
  fields := #[]
  methods := #[]
  instanceTypes := #[]
  staticTypes := #[]
  resolved := #[]
  callSites := []
  init := .initialized
  statics := none
  mirror := none

def pool0 : Array CpInfo := pool [(5, u "<init>"), (0, u "()V"), (1, .class_ 10), (1, u "java/lang/Object")] 113

def k0c0 : Code := { maxStack := 0, maxLocals := 1, code := object_method_1_code, exceptionTable := #[], attributes := #[] }
def k0m0 : Method := { name := "<init>", desc := "()V", sig := { parameters := [], returnType := none }, accessFlags := 1, code := some k0c0 }
/-- java/lang/Object -/
def k0 : Class := { plain "java/lang/Object" none with
  accessFlags := 33
  interfaces := #[]
  cf := some (fileOf pool0 8 #[] #[{ accessFlags := 1, nameIndex := 5, descriptorIndex := 6, attributes := #[] }] 33 0 #[] #[])
  fields := #[]
  methods := #[k0m0]
  instanceTypes := #[]
  staticTypes := #[]
  resolved := Array.replicate 124 none
  statics := none }

def pool1 : Array CpInfo := pool [(2, .class_ 4), (1, u "java/lang/Object"), (0, u "<init>"), (0, u "()V"), (0, .class_ 8), (0, u "java/lang/String"), (0, .methodref 7 10), (0, .nameAndType 5 11), (0, u "([C)V"), (0, .methodref 7 13), (0, .nameAndType 14 15), (0, u "valueOf"), (0, u "(C)Ljava/lang/String;"), (0, .methodref 17 18), (0, .class_ 19), (0, .nameAndType 20 21), (0, u "com/example/banyan/banyan/language/RoleNamedPinLaw"), (0, u "str"), (0, u "(ICCC)Ljava/lang/String;"), (0, .methodref 23 24), (0, .class_ 25), (0, .nameAndType 26 27), (0, u "com/example/banyan/banyan/language/Role"), (0, u "named"), (0, u "(Ljava/lang/String;)Lcom/example/banyan/banyan/language/Role;"), (0, .methodref 23 29), (0, .nameAndType 30 31), (0, u "name"), (0, u "()Ljava/lang/String;"), (0, .methodref 7 33), (0, .nameAndType 34 35), (0, u "equals"), (0, u "(Ljava/lang/Object;)Z"), (0, .methodref 23 37), (0, .nameAndType 38 39), (0, u "isInverse"), (0, u "()Z"), (0, .methodref 23 33), (0, .methodref 23 42), (0, .nameAndType 43 44), (0, u "inverse"), (0, u "()Lcom/example/banyan/banyan/language/Role;"), (3, u "law"), (0, u "(IIIIII)Z")] 2

def k1m0 : Method := { name := "<init>", desc := "()V", sig := { parameters := [], returnType := none }, accessFlags := 1, code := none }
def k1c1 : Code := { maxStack := 6, maxLocals := 4, code := method_2_code, exceptionTable := #[], attributes := #[] }
def k1m1 : Method := { name := "str", desc := "(ICCC)Ljava/lang/String;", sig := { parameters := [.int, .char, .char, .char], returnType := some (.object "java/lang/String") }, accessFlags := 10, code := some k1c1 }
def k1c2 : Code := { maxStack := 4, maxLocals := 17, code := code, exceptionTable := #[], attributes := #[] }
def k1m2 : Method := { name := "law", desc := "(IIIIII)Z", sig := { parameters := [.int, .int, .int, .int, .int, .int], returnType := some .boolean }, accessFlags := 9, code := some k1c2 }
/-- com/example/banyan/banyan/language/RoleNamedPinLaw -/
def k1 : Class := { plain "com/example/banyan/banyan/language/RoleNamedPinLaw" (some 0) with
  accessFlags := 49
  interfaces := #[]
  cf := some (fileOf pool1 17 #[] #[{ accessFlags := 1, nameIndex := 5, descriptorIndex := 6, attributes := #[] }, { accessFlags := 10, nameIndex := 20, descriptorIndex := 21, attributes := #[] }, { accessFlags := 9, nameIndex := 48, descriptorIndex := 49, attributes := #[] }] 49 2 #[] #[])
  fields := #[]
  methods := #[k1m0, k1m1, k1m2]
  instanceTypes := #[]
  staticTypes := #[]
  resolved := Array.replicate 52 none
  statics := none }

def pool2 : Array CpInfo := pool [(1, .class_ 2), (0, u "java/io/Serializable"), (0, .class_ 4), (0, u "java/lang/Object")] 2

/-- java/io/Serializable -/
def k2 : Class := { plain "java/io/Serializable" (some 0) with
  accessFlags := 1537
  interfaces := #[]
  cf := some (fileOf pool2 1 #[] #[] 1537 3 #[] #[])
  fields := #[]
  methods := #[]
  instanceTypes := #[]
  staticTypes := #[]
  resolved := Array.replicate 7 none
  statics := none }

def pool3 : Array CpInfo := pool [(1, .class_ 2), (0, u "java/lang/Comparable"), (0, .class_ 4), (0, u "java/lang/Object")] 7

/-- java/lang/Comparable -/
def k3 : Class := { plain "java/lang/Comparable" (some 0) with
  accessFlags := 1537
  interfaces := #[]
  cf := some (fileOf pool3 1 #[] #[] 1537 3 #[] #[])
  fields := #[]
  methods := #[]
  instanceTypes := #[]
  staticTypes := #[]
  resolved := Array.replicate 12 none
  statics := none }

def pool4 : Array CpInfo := pool [(2, .class_ 4), (1, u "java/lang/CharSequence"), (42, .class_ 48), (0, u "java/lang/CharSequence$1CodePointIterator"), (10, .class_ 60), (0, u "java/lang/CharSequence$1CharIterator"), (5, .class_ 67), (0, u "java/lang/Object")] 63

/-- java/lang/CharSequence -/
def k4 : Class := { plain "java/lang/CharSequence" (some 0) with
  accessFlags := 1537
  interfaces := #[]
  cf := some (fileOf pool4 2 #[.nestMembers #[47, 59]] #[] 1537 66 #[] #[])
  fields := #[]
  methods := #[]
  instanceTypes := #[]
  staticTypes := #[]
  resolved := Array.replicate 131 none
  statics := none }

def pool5 : Array CpInfo := pool [(1, .class_ 2), (0, u "java/lang/constant/Constable"), (0, .class_ 4), (0, u "java/lang/Object")] 6

/-- java/lang/constant/Constable -/
def k5 : Class := { plain "java/lang/constant/Constable" (some 0) with
  accessFlags := 1537
  interfaces := #[]
  cf := some (fileOf pool5 1 #[] #[] 1537 3 #[] #[])
  fields := #[]
  methods := #[]
  instanceTypes := #[]
  staticTypes := #[]
  resolved := Array.replicate 11 none
  statics := none }

def pool6 : Array CpInfo := pool [(1, .class_ 2), (0, u "java/lang/constant/ConstantDesc"), (0, .class_ 4), (0, u "java/lang/Object")] 32

/-- java/lang/constant/ConstantDesc -/
def k6 : Class := { plain "java/lang/constant/ConstantDesc" (some 0) with
  accessFlags := 1537
  interfaces := #[]
  cf := some (fileOf pool6 1 #[] #[] 1537 3 #[] #[])
  fields := #[]
  methods := #[]
  instanceTypes := #[]
  staticTypes := #[]
  resolved := Array.replicate 37 none
  statics := none }

def pool7 : Array CpInfo := pool [(1, .methodref 2 3), (0, .class_ 4), (0, .nameAndType 5 6), (0, u "java/lang/Object"), (0, u "<init>"), (0, u "()V"), (0, .string 8), (0, u ""), (0, .fieldref 10 11), (0, .class_ 12), (0, .nameAndType 13 14), (0, u "java/lang/String"), (0, u "value"), (0, u "[B"), (0, .fieldref 10 16), (0, .nameAndType 17 18), (0, u "coder"), (0, u "B"), (2, u "hash"), (0, u "I"), (2, u "hashIsZero"), (0, u "Z"), (0, .methodref 10 28), (0, .nameAndType 5 29), (0, u "([CIILjava/lang/Void;)V"), (8, .fieldref 10 39), (0, .nameAndType 40 26), (0, u "COMPACT_STRINGS"), (1, .class_ 44), (1, u "java/lang/StringUTF16"), (0, u "compress"), (1, .methodref 42 48), (0, .nameAndType 49 50), (0, u "coderFromArrayLen"), (0, u "([BI)B"), (2, u "toBytes"), (53, .class_ 109), (1, u "java/lang/StringLatin1"), (67, .methodref 42 178), (0, .nameAndType 45 179), (0, u "([CII)[B"), (29, .methodref 10 210), (0, .nameAndType 5 211), (0, u "([BB)V"), (157, u "(C)Z"), (171, .methodref 107 542), (0, .nameAndType 543 544), (0, u "equals"), (0, u "([B[B)Z"), (28, u "(Ljava/lang/Object;)Z"), (1, .class_ 576), (0, u "java/lang/CharSequence"), (22, u "CASE_INSENSITIVE_ORDER"), (0, u "Ljava/util/Comparator;"), (181, u "valueOf"), (0, u "(C)Ljava/lang/String;"), (226, u "([C)V"), (4, .methodref 107 1016), (0, .nameAndType 1017 369), (0, u "canEncode"), (0, .methodref 107 1019), (0, .nameAndType 53 1020), (0, u "(C)[B"), (80, u "serialPersistentFields"), (0, u "[Ljava/io/ObjectStreamField;"), (0, .class_ 1104), (0, u "java/lang/String$CaseInsensitiveComparator"), (1, .class_ 1107), (0, u "java/io/Serializable"), (0, .class_ 1109), (0, u "java/lang/Comparable"), (0, .class_ 1111), (0, u "java/lang/constant/Constable"), (0, .class_ 1113), (0, u "java/lang/constant/ConstantDesc"), (2, u "serialVersionUID"), (0, u "J"), (3, u "REPL"), (0, u "C"), (2, u "LATIN1"), (1, u "UTF16")] 323

def k7m0 : Method := { name := "<init>", desc := "()V", sig := { parameters := [], returnType := none }, accessFlags := 1, code := none }
def k7c1 : Code := { maxStack := 5, maxLocals := 2, code := jdk_42_method_3_code, exceptionTable := #[], attributes := #[] }
def k7m1 : Method := { name := "<init>", desc := "([C)V", sig := { parameters := [(.array .char)], returnType := none }, accessFlags := 1, code := some k7c1 }
def k7c2 : Code := { maxStack := 2, maxLocals := 3, code := jdk_42_method_66_code, exceptionTable := #[], attributes := #[] }
def k7m2 : Method := { name := "equals", desc := "(Ljava/lang/Object;)Z", sig := { parameters := [(.object "java/lang/Object")], returnType := some .boolean }, accessFlags := 1, code := some k7c2 }
def k7c3 : Code := { maxStack := 4, maxLocals := 1, code := jdk_42_method_139_code, exceptionTable := #[], attributes := #[] }
def k7m3 : Method := { name := "valueOf", desc := "(C)Ljava/lang/String;", sig := { parameters := [.char], returnType := some (.object "java/lang/String") }, accessFlags := 9, code := some k7c3 }
def k7c4 : Code := { maxStack := 4, maxLocals := 6, code := jdk_42_method_149_code, exceptionTable := #[], attributes := #[] }
def k7m4 : Method := { name := "<init>", desc := "([CIILjava/lang/Void;)V", sig := { parameters := [(.array .char), .int, .int, (.object "java/lang/Void")], returnType := none }, accessFlags := 2, code := some k7c4 }
def k7c5 : Code := { maxStack := 2, maxLocals := 3, code := jdk_42_method_151_code, exceptionTable := #[], attributes := #[] }
def k7m5 : Method := { name := "<init>", desc := "([BB)V", sig := { parameters := [(.array .byte), .byte], returnType := none }, accessFlags := 0, code := some k7c5 }
/-- java/lang/String -/
def k7 : Class := { plain "java/lang/String" (some 0) with
  accessFlags := 49
  interfaces := #[2, 3, 4, 5, 6]
  cf := some (fileOf pool7 10 #[.nestMembers #[1103]] #[{ accessFlags := 1, nameIndex := 5, descriptorIndex := 6, attributes := #[] }, { accessFlags := 1, nameIndex := 5, descriptorIndex := 1010, attributes := #[] }, { accessFlags := 1, nameIndex := 543, descriptorIndex := 573, attributes := #[] }, { accessFlags := 9, nameIndex := 782, descriptorIndex := 783, attributes := #[] }, { accessFlags := 2, nameIndex := 5, descriptorIndex := 29, attributes := #[] }, { accessFlags := 0, nameIndex := 5, descriptorIndex := 211, attributes := #[] }] 49 2 #[1106, 1108, 575, 1110, 1112] #[{ accessFlags := 18, nameIndex := 13, descriptorIndex := 14, attributes := #[] }, { accessFlags := 18, nameIndex := 17, descriptorIndex := 18, attributes := #[] }, { accessFlags := 2, nameIndex := 21, descriptorIndex := 22, attributes := #[] }, { accessFlags := 2, nameIndex := 25, descriptorIndex := 26, attributes := #[] }, { accessFlags := 26, nameIndex := 1116, descriptorIndex := 1117, attributes := #[] }, { accessFlags := 24, nameIndex := 40, descriptorIndex := 26, attributes := #[] }, { accessFlags := 26, nameIndex := 1101, descriptorIndex := 1102, attributes := #[] }, { accessFlags := 26, nameIndex := 1121, descriptorIndex := 1122, attributes := #[] }, { accessFlags := 25, nameIndex := 599, descriptorIndex := 600, attributes := #[] }, { accessFlags := 24, nameIndex := 1125, descriptorIndex := 18, attributes := #[] }, { accessFlags := 24, nameIndex := 1127, descriptorIndex := 18, attributes := #[] }])
  fields := #[{ name := "value", type := (.array .byte), accessFlags := 18, slot := 0, constantValue := 0 }, { name := "coder", type := .byte, accessFlags := 18, slot := 1, constantValue := 0 }, { name := "hash", type := .int, accessFlags := 2, slot := 2, constantValue := 0 }, { name := "hashIsZero", type := .boolean, accessFlags := 2, slot := 3, constantValue := 0 }, { name := "serialVersionUID", type := .long, accessFlags := 26, slot := 0, constantValue := 0 }, { name := "COMPACT_STRINGS", type := .boolean, accessFlags := 24, slot := 1, constantValue := 0 }, { name := "serialPersistentFields", type := (.array (.object "java/io/ObjectStreamField")), accessFlags := 26, slot := 2, constantValue := 0 }, { name := "REPL", type := .char, accessFlags := 26, slot := 3, constantValue := 0 }, { name := "CASE_INSENSITIVE_ORDER", type := (.object "java/util/Comparator"), accessFlags := 25, slot := 4, constantValue := 0 }, { name := "LATIN1", type := .byte, accessFlags := 24, slot := 5, constantValue := 0 }, { name := "UTF16", type := .byte, accessFlags := 24, slot := 6, constantValue := 0 }]
  methods := #[k7m0, k7m1, k7m2, k7m3, k7m4, k7m5]
  instanceTypes := #[(.array .byte), .byte, .int, .boolean]
  staticTypes := #[.long, .boolean, (.array (.object "java/io/ObjectStreamField")), .char, (.object "java/util/Comparator"), .byte, .byte]
  resolved := Array.replicate 1451 none
  statics := some 0 }

def pool8 : Array CpInfo := pool [(4, .class_ 6), (1, u "java/lang/Object"), (0, u "<init>"), (0, u "()V"), (5, .class_ 16), (1, u "java/lang/StringLatin1"), (73, u "canEncode"), (14, u "(C)Z"), (15, u "$assertionsDisabled"), (0, u "Z"), (98, .class_ 223), (1, u "java/lang/StringLatin1$LinesSpliterator"), (57, u "equals"), (0, u "([B[B)Z"), (97, u "toBytes"), (1, u "(C)[B"), (7, .class_ 391), (0, u "java/lang/StringLatin1$CharsSpliterator")] 3

def k8m0 : Method := { name := "<init>", desc := "()V", sig := { parameters := [], returnType := none }, accessFlags := 0, code := none }
def k8c1 : Code := { maxStack := 2, maxLocals := 1, code := jdk_43_method_3_code, exceptionTable := #[], attributes := #[] }
def k8m1 : Method := { name := "canEncode", desc := "(C)Z", sig := { parameters := [.char], returnType := some .boolean }, accessFlags := 9, code := some k8c1 }
def k8c2 : Code := { maxStack := 3, maxLocals := 3, code := jdk_43_method_13_code, exceptionTable := #[], attributes := #[] }
def k8m2 : Method := { name := "equals", desc := "([B[B)Z", sig := { parameters := [(.array .byte), (.array .byte)], returnType := some .boolean }, accessFlags := 9, code := some k8c2 }
def k8c3 : Code := { maxStack := 4, maxLocals := 1, code := jdk_43_method_46_code, exceptionTable := #[], attributes := #[] }
def k8m3 : Method := { name := "toBytes", desc := "(C)[B", sig := { parameters := [.char], returnType := some (.array .byte) }, accessFlags := 9, code := some k8c3 }
/-- java/lang/StringLatin1 -/
def k8 : Class := { plain "java/lang/StringLatin1" (some 0) with
  accessFlags := 48
  interfaces := #[]
  cf := some (fileOf pool8 14 #[.nestMembers #[390, 221]] #[{ accessFlags := 0, nameIndex := 7, descriptorIndex := 8, attributes := #[] }, { accessFlags := 9, nameIndex := 90, descriptorIndex := 105, attributes := #[] }, { accessFlags := 9, nameIndex := 281, descriptorIndex := 282, attributes := #[] }, { accessFlags := 9, nameIndex := 380, descriptorIndex := 382, attributes := #[] }] 48 4 #[] #[{ accessFlags := 4120, nameIndex := 121, descriptorIndex := 122, attributes := #[] }])
  fields := #[{ name := "$assertionsDisabled", type := .boolean, accessFlags := 4120, slot := 0, constantValue := 0 }]
  methods := #[k8m0, k8m1, k8m2, k8m3]
  instanceTypes := #[]
  staticTypes := #[.boolean]
  resolved := Array.replicate 395 none
  statics := none }

def pool9 : Array CpInfo := pool [(1, .methodref 2 3), (0, .class_ 4), (0, .nameAndType 5 6), (0, u "java/lang/Object"), (0, u "<init>"), (0, u "()V"), (0, .fieldref 8 9), (0, .class_ 10), (0, .nameAndType 11 12), (0, u "com/example/banyan/banyan/language/Role"), (0, u "name"), (0, u "Ljava/lang/String;"), (0, .fieldref 8 14), (0, .nameAndType 15 16), (0, u "inverse"), (0, u "Z"), (0, .methodref 18 19), (0, .class_ 20), (0, .nameAndType 21 22), (0, u "java/util/Objects"), (0, u "requireNonNull"), (0, u "(Ljava/lang/Object;)Ljava/lang/Object;"), (0, .class_ 24), (0, u "java/lang/String"), (0, .methodref 8 26), (0, .nameAndType 5 27), (0, u "(Ljava/lang/String;Z)V"), (0, .methodref 23 29), (0, .nameAndType 30 31), (0, u "equals"), (0, u "(Ljava/lang/Object;)Z"), (17, u "named"), (0, u "(Ljava/lang/String;)Lcom/example/banyan/banyan/language/Role;"), (0, u "()Ljava/lang/String;"), (0, u "isInverse"), (0, u "()Z"), (0, u "()Lcom/example/banyan/banyan/language/Role;")] 23

def k9c0 : Code := { maxStack := 2, maxLocals := 3, code := prog_6_method_1_code, exceptionTable := #[], attributes := #[] }
def k9m0 : Method := { name := "<init>", desc := "(Ljava/lang/String;Z)V", sig := { parameters := [(.object "java/lang/String"), .boolean], returnType := none }, accessFlags := 2, code := some k9c0 }
def k9c1 : Code := { maxStack := 4, maxLocals := 1, code := prog_6_method_2_code, exceptionTable := #[], attributes := #[] }
def k9m1 : Method := { name := "named", desc := "(Ljava/lang/String;)Lcom/example/banyan/banyan/language/Role;", sig := { parameters := [(.object "java/lang/String")], returnType := some (.object "com/example/banyan/banyan/language/Role") }, accessFlags := 9, code := some k9c1 }
def k9c2 : Code := { maxStack := 1, maxLocals := 1, code := prog_6_method_3_code, exceptionTable := #[], attributes := #[] }
def k9m2 : Method := { name := "name", desc := "()Ljava/lang/String;", sig := { parameters := [], returnType := some (.object "java/lang/String") }, accessFlags := 1, code := some k9c2 }
def k9c3 : Code := { maxStack := 1, maxLocals := 1, code := prog_6_method_4_code, exceptionTable := #[], attributes := #[] }
def k9m3 : Method := { name := "isInverse", desc := "()Z", sig := { parameters := [], returnType := some .boolean }, accessFlags := 1, code := some k9c3 }
def k9c4 : Code := { maxStack := 4, maxLocals := 1, code := prog_6_method_5_code, exceptionTable := #[], attributes := #[] }
def k9m4 : Method := { name := "inverse", desc := "()Lcom/example/banyan/banyan/language/Role;", sig := { parameters := [], returnType := some (.object "com/example/banyan/banyan/language/Role") }, accessFlags := 1, code := some k9c4 }
def k9c5 : Code := { maxStack := 2, maxLocals := 3, code := prog_6_method_6_code, exceptionTable := #[], attributes := #[] }
def k9m5 : Method := { name := "equals", desc := "(Ljava/lang/Object;)Z", sig := { parameters := [(.object "java/lang/Object")], returnType := some .boolean }, accessFlags := 1, code := some k9c5 }
/-- com/example/banyan/banyan/language/Role -/
def k9 : Class := { plain "com/example/banyan/banyan/language/Role" (some 0) with
  accessFlags := 33
  interfaces := #[]
  cf := some (fileOf pool9 8 #[] #[{ accessFlags := 2, nameIndex := 5, descriptorIndex := 27, attributes := #[] }, { accessFlags := 9, nameIndex := 49, descriptorIndex := 50, attributes := #[] }, { accessFlags := 1, nameIndex := 11, descriptorIndex := 51, attributes := #[] }, { accessFlags := 1, nameIndex := 52, descriptorIndex := 53, attributes := #[] }, { accessFlags := 1, nameIndex := 15, descriptorIndex := 54, attributes := #[] }, { accessFlags := 1, nameIndex := 30, descriptorIndex := 31, attributes := #[] }] 33 2 #[] #[{ accessFlags := 18, nameIndex := 11, descriptorIndex := 12, attributes := #[] }, { accessFlags := 18, nameIndex := 15, descriptorIndex := 16, attributes := #[] }])
  fields := #[{ name := "name", type := (.object "java/lang/String"), accessFlags := 18, slot := 0, constantValue := 0 }, { name := "inverse", type := .boolean, accessFlags := 18, slot := 1, constantValue := 0 }]
  methods := #[k9m0, k9m1, k9m2, k9m3, k9m4, k9m5]
  instanceTypes := #[(.object "java/lang/String"), .boolean]
  staticTypes := #[]
  resolved := Array.replicate 78 none
  statics := none }

def pool10 : Array CpInfo := pool [(2, .class_ 4), (1, u "java/lang/Object"), (0, u "<init>"), (0, u "()V"), (35, .class_ 44), (1, u "java/util/Objects"), (0, u "requireNonNull"), (0, u "(Ljava/lang/Object;)Ljava/lang/Object;")] 137

def k10m0 : Method := { name := "<init>", desc := "()V", sig := { parameters := [], returnType := none }, accessFlags := 2, code := none }
def k10c1 : Code := { maxStack := 2, maxLocals := 1, code := jdk_31_method_10_code, exceptionTable := #[], attributes := #[] }
def k10m1 : Method := { name := "requireNonNull", desc := "(Ljava/lang/Object;)Ljava/lang/Object;", sig := { parameters := [(.object "java/lang/Object")], returnType := some (.object "java/lang/Object") }, accessFlags := 9, code := some k10c1 }
/-- java/util/Objects -/
def k10 : Class := { plain "java/util/Objects" (some 0) with
  accessFlags := 49
  interfaces := #[]
  cf := some (fileOf pool10 42 #[] #[{ accessFlags := 2, nameIndex := 5, descriptorIndex := 6, attributes := #[] }, { accessFlags := 9, nameIndex := 45, descriptorIndex := 46, attributes := #[] }] 49 2 #[] #[])
  fields := #[]
  methods := #[k10m0, k10m1]
  instanceTypes := #[]
  staticTypes := #[]
  resolved := Array.replicate 184 none
  statics := none }

def pool11 : Array CpInfo := pool [(6, .class_ 8), (1, u "java/lang/Object"), (0, u "<init>"), (0, u "()V"), (1, .class_ 14), (1, u "java/lang/StringUTF16"), (31, u "$assertionsDisabled"), (0, u "Z"), (13, u "HI_BYTE_SHIFT"), (0, u "I"), (2, u "LO_BYTE_SHIFT"), (49, .methodref 12 116), (0, .nameAndType 117 118), (0, u "compress"), (0, u "([CI[BII)I"), (3, u "([CII)[B"), (138, u "coderFromArrayLen"), (0, u "([BI)B"), (106, .class_ 371), (1, u "java/lang/StringUTF16$LinesSpliterator"), (58, u "MAX_LENGTH"), (196, .class_ 628), (0, u "java/lang/StringUTF16$CodePointsSpliterator"), (0, .class_ 630), (0, u "java/lang/StringUTF16$CharsSpliterator")] 4

def k11m0 : Method := { name := "<init>", desc := "()V", sig := { parameters := [], returnType := none }, accessFlags := 0, code := none }
def k11c1 : Code := { maxStack := 2, maxLocals := 2, code := jdk_52_method_15_code, exceptionTable := #[], attributes := #[] }
def k11m1 : Method := { name := "coderFromArrayLen", desc := "([BI)B", sig := { parameters := [(.array .byte), .int], returnType := some .byte }, accessFlags := 8, code := some k11c1 }
def k11c2 : Code := { maxStack := 5, maxLocals := 6, code := jdk_52_method_16_code, exceptionTable := #[], attributes := #[] }
def k11m2 : Method := { name := "compress", desc := "([CII)[B", sig := { parameters := [(.array .char), .int, .int], returnType := some (.array .byte) }, accessFlags := 9, code := some k11c2 }
def k11c3 : Code := { maxStack := 3, maxLocals := 7, code := jdk_52_method_21_code, exceptionTable := #[], attributes := #[] }
def k11m3 : Method := { name := "compress", desc := "([CI[BII)I", sig := { parameters := [(.array .char), .int, (.array .byte), .int, .int], returnType := some .int }, accessFlags := 9, code := some k11c3 }
/-- java/lang/StringUTF16 -/
def k11 : Class := { plain "java/lang/StringUTF16" (some 0) with
  accessFlags := 48
  interfaces := #[]
  cf := some (fileOf pool11 12 #[.nestMembers #[627, 629, 369]] #[{ accessFlags := 0, nameIndex := 9, descriptorIndex := 10, attributes := #[] }, { accessFlags := 8, nameIndex := 261, descriptorIndex := 262, attributes := #[] }, { accessFlags := 9, nameIndex := 117, descriptorIndex := 122, attributes := #[] }, { accessFlags := 9, nameIndex := 117, descriptorIndex := 118, attributes := #[] }] 48 6 #[] #[{ accessFlags := 26, nameIndex := 61, descriptorIndex := 62, attributes := #[] }, { accessFlags := 26, nameIndex := 65, descriptorIndex := 62, attributes := #[] }, { accessFlags := 24, nameIndex := 430, descriptorIndex := 62, attributes := #[] }, { accessFlags := 4120, nameIndex := 46, descriptorIndex := 47, attributes := #[] }])
  fields := #[{ name := "HI_BYTE_SHIFT", type := .int, accessFlags := 26, slot := 0, constantValue := 0 }, { name := "LO_BYTE_SHIFT", type := .int, accessFlags := 26, slot := 1, constantValue := 0 }, { name := "MAX_LENGTH", type := .int, accessFlags := 24, slot := 2, constantValue := 0 }, { name := "$assertionsDisabled", type := .boolean, accessFlags := 4120, slot := 3, constantValue := 0 }]
  methods := #[k11m0, k11m1, k11m2, k11m3]
  instanceTypes := #[]
  staticTypes := #[.int, .int, .int, .boolean]
  resolved := Array.replicate 635 none
  statics := none }

def pool12 : Array CpInfo := pool [(2, .class_ 4), (1, u "java/lang/Object"), (0, u "<init>"), (0, u "()V"), (17, .class_ 26), (1, u "jdk/internal/util/Preconditions"), (28, .class_ 56), (0, u "jdk/internal/util/Preconditions$4"), (57, .class_ 115), (0, u "jdk/internal/util/Preconditions$1"), (7, u "SIOOBE_FORMATTER"), (0, u "Ljava/util/function/BiFunction;"), (0, .class_ 126), (0, u "jdk/internal/util/Preconditions$2"), (3, u "AIOOBE_FORMATTER"), (0, .class_ 132), (0, u "jdk/internal/util/Preconditions$3"), (3, u "IOOBE_FORMATTER")] 57

def k12m0 : Method := { name := "<init>", desc := "()V", sig := { parameters := [], returnType := none }, accessFlags := 1, code := none }
/-- jdk/internal/util/Preconditions -/
def k12 : Class := { plain "jdk/internal/util/Preconditions" (some 0) with
  accessFlags := 33
  interfaces := #[]
  cf := some (fileOf pool12 24 #[.nestMembers #[55, 131, 125, 114]] #[{ accessFlags := 1, nameIndex := 5, descriptorIndex := 6, attributes := #[] }] 33 2 #[] #[{ accessFlags := 25, nameIndex := 123, descriptorIndex := 124, attributes := #[] }, { accessFlags := 25, nameIndex := 130, descriptorIndex := 124, attributes := #[] }, { accessFlags := 25, nameIndex := 136, descriptorIndex := 124, attributes := #[] }])
  fields := #[{ name := "SIOOBE_FORMATTER", type := (.object "java/util/function/BiFunction"), accessFlags := 25, slot := 0, constantValue := 0 }, { name := "AIOOBE_FORMATTER", type := (.object "java/util/function/BiFunction"), accessFlags := 25, slot := 1, constantValue := 0 }, { name := "IOOBE_FORMATTER", type := (.object "java/util/function/BiFunction"), accessFlags := 25, slot := 2, constantValue := 0 }]
  methods := #[k12m0]
  instanceTypes := #[]
  staticTypes := #[(.object "java/util/function/BiFunction"), (.object "java/util/function/BiFunction"), (.object "java/util/function/BiFunction")]
  resolved := Array.replicate 194 none
  statics := some 1 }

def pool13 : Array CpInfo := pool [(9, u "<init>"), (6, .class_ 18), (1, u "java/lang/Object"), (0, u "()V"), (1, .class_ 23), (1, u "jdk/internal/util/ArraysSupport"), (0, u "LOG2_ARRAY_LONG_INDEX_SCALE"), (0, u "I"), (2, u "U"), (0, u "Ljdk/internal/misc/Unsafe;"), (8, u "BIG_ENDIAN"), (0, u "Z"), (8, u "LOG2_BYTE_BIT_SIZE"), (4, u "LOG2_ARRAY_INT_INDEX_SCALE"), (54, u "JLA"), (0, u "Ljdk/internal/access/JavaLangAccess;"), (11, u "LOG2_ARRAY_BOOLEAN_INDEX_SCALE"), (9, u "LOG2_ARRAY_BYTE_INDEX_SCALE"), (5, u "LOG2_ARRAY_CHAR_INDEX_SCALE"), (5, u "LOG2_ARRAY_SHORT_INDEX_SCALE"), (18, u "LOG2_ARRAY_FLOAT_INDEX_SCALE"), (24, u "LOG2_ARRAY_DOUBLE_INDEX_SCALE"), (89, u "T_BOOLEAN"), (2, u "T_CHAR"), (1, u "T_FLOAT"), (1, u "T_DOUBLE"), (1, u "T_BYTE"), (1, u "T_SHORT"), (1, u "T_INT"), (1, u "T_LONG"), (1, u "SOFT_MAX_ARRAY_LENGTH")] 83

def k13m0 : Method := { name := "<init>", desc := "()V", sig := { parameters := [], returnType := none }, accessFlags := 2, code := none }
/-- jdk/internal/util/ArraysSupport -/
def k13 : Class := { plain "jdk/internal/util/ArraysSupport" (some 0) with
  accessFlags := 33
  interfaces := #[]
  cf := some (fileOf pool13 21 #[] #[{ accessFlags := 2, nameIndex := 9, descriptorIndex := 19, attributes := #[] }] 33 16 #[] #[{ accessFlags := 24, nameIndex := 28, descriptorIndex := 29, attributes := #[] }, { accessFlags := 26, nameIndex := 38, descriptorIndex := 39, attributes := #[] }, { accessFlags := 25, nameIndex := 121, descriptorIndex := 25, attributes := #[] }, { accessFlags := 25, nameIndex := 131, descriptorIndex := 25, attributes := #[] }, { accessFlags := 25, nameIndex := 137, descriptorIndex := 25, attributes := #[] }, { accessFlags := 25, nameIndex := 143, descriptorIndex := 25, attributes := #[] }, { accessFlags := 25, nameIndex := 53, descriptorIndex := 25, attributes := #[] }, { accessFlags := 25, nameIndex := 24, descriptorIndex := 25, attributes := #[] }, { accessFlags := 25, nameIndex := 162, descriptorIndex := 25, attributes := #[] }, { accessFlags := 25, nameIndex := 187, descriptorIndex := 25, attributes := #[] }, { accessFlags := 26, nameIndex := 48, descriptorIndex := 25, attributes := #[] }, { accessFlags := 25, nameIndex := 277, descriptorIndex := 25, attributes := #[] }, { accessFlags := 25, nameIndex := 280, descriptorIndex := 25, attributes := #[] }, { accessFlags := 25, nameIndex := 282, descriptorIndex := 25, attributes := #[] }, { accessFlags := 25, nameIndex := 284, descriptorIndex := 25, attributes := #[] }, { accessFlags := 25, nameIndex := 286, descriptorIndex := 25, attributes := #[] }, { accessFlags := 25, nameIndex := 288, descriptorIndex := 25, attributes := #[] }, { accessFlags := 25, nameIndex := 290, descriptorIndex := 25, attributes := #[] }, { accessFlags := 25, nameIndex := 292, descriptorIndex := 25, attributes := #[] }, { accessFlags := 26, nameIndex := 108, descriptorIndex := 109, attributes := #[] }, { accessFlags := 25, nameIndex := 294, descriptorIndex := 25, attributes := #[] }])
  fields := #[{ name := "U", type := (.object "jdk/internal/misc/Unsafe"), accessFlags := 24, slot := 0, constantValue := 0 }, { name := "BIG_ENDIAN", type := .boolean, accessFlags := 26, slot := 1, constantValue := 0 }, { name := "LOG2_ARRAY_BOOLEAN_INDEX_SCALE", type := .int, accessFlags := 25, slot := 2, constantValue := 0 }, { name := "LOG2_ARRAY_BYTE_INDEX_SCALE", type := .int, accessFlags := 25, slot := 3, constantValue := 0 }, { name := "LOG2_ARRAY_CHAR_INDEX_SCALE", type := .int, accessFlags := 25, slot := 4, constantValue := 0 }, { name := "LOG2_ARRAY_SHORT_INDEX_SCALE", type := .int, accessFlags := 25, slot := 5, constantValue := 0 }, { name := "LOG2_ARRAY_INT_INDEX_SCALE", type := .int, accessFlags := 25, slot := 6, constantValue := 0 }, { name := "LOG2_ARRAY_LONG_INDEX_SCALE", type := .int, accessFlags := 25, slot := 7, constantValue := 0 }, { name := "LOG2_ARRAY_FLOAT_INDEX_SCALE", type := .int, accessFlags := 25, slot := 8, constantValue := 0 }, { name := "LOG2_ARRAY_DOUBLE_INDEX_SCALE", type := .int, accessFlags := 25, slot := 9, constantValue := 0 }, { name := "LOG2_BYTE_BIT_SIZE", type := .int, accessFlags := 26, slot := 10, constantValue := 0 }, { name := "T_BOOLEAN", type := .int, accessFlags := 25, slot := 11, constantValue := 0 }, { name := "T_CHAR", type := .int, accessFlags := 25, slot := 12, constantValue := 0 }, { name := "T_FLOAT", type := .int, accessFlags := 25, slot := 13, constantValue := 0 }, { name := "T_DOUBLE", type := .int, accessFlags := 25, slot := 14, constantValue := 0 }, { name := "T_BYTE", type := .int, accessFlags := 25, slot := 15, constantValue := 0 }, { name := "T_SHORT", type := .int, accessFlags := 25, slot := 16, constantValue := 0 }, { name := "T_INT", type := .int, accessFlags := 25, slot := 17, constantValue := 0 }, { name := "T_LONG", type := .int, accessFlags := 25, slot := 18, constantValue := 0 }, { name := "JLA", type := (.object "jdk/internal/access/JavaLangAccess"), accessFlags := 26, slot := 19, constantValue := 0 }, { name := "SOFT_MAX_ARRAY_LENGTH", type := .int, accessFlags := 25, slot := 20, constantValue := 0 }]
  methods := #[k13m0]
  instanceTypes := #[]
  staticTypes := #[(.object "jdk/internal/misc/Unsafe"), .boolean, .int, .int, .int, .int, .int, .int, .int, .int, .int, .int, .int, .int, .int, .int, .int, .int, .int, (.object "jdk/internal/access/JavaLangAccess"), .int]
  resolved := Array.replicate 378 none
  statics := none }

def pool14 : Array CpInfo := pool [(1, u "java/lang/Cloneable"), (0, .class_ 1), (0, u "java/lang/Object"), (0, .class_ 3)] 3

/-- java/lang/Cloneable -/
def k14 : Class := { plain "java/lang/Cloneable" (some 0) with
  accessFlags := 1537
  interfaces := #[]
  cf := some (fileOf pool14 2 #[] #[] 1537 4 #[] #[])
  fields := #[]
  methods := #[]
  instanceTypes := #[]
  staticTypes := #[]
  resolved := Array.replicate 8 none
  statics := none }

/-- the primitive byte -/
def k15 : Class := { plain "byte" none with kind := .primitive 'B', accessFlags := 0x411 }
/-- [B -/
def k16 : Class := { plain "[B" (some 0) with kind := .array 15 .byte, interfaces := #[14, 2], accessFlags := 1041 }

/-- the primitive char -/
def k17 : Class := { plain "char" none with kind := .primitive 'C', accessFlags := 0x411 }
/-- [C -/
def k18 : Class := { plain "[C" (some 0) with kind := .array 17 .char, interfaces := #[14, 2], accessFlags := 1041 }

/-- the primitive int -/
def k19 : Class := { plain "int" none with kind := .primitive 'I', accessFlags := 0x411 }
/-- [I -/
def k20 : Class := { plain "[I" (some 0) with kind := .array 19 .int, interfaces := #[14, 2], accessFlags := 1041 }

def heap : Heap := #[{ cls := 7, slots := #[.long 0, .int 1, .null, .int 0, .null, .int 0, .int 0], vm := .statics 7 },
  { cls := 12, slots := #[.null, .null, .null], vm := .statics 12 }]
def classes : Array Class := #[k0, k1, k2, k3, k4, k5, k6, k7, k8, k9, k10, k11, k12, k13, k14, k15, k16, k17, k18, k19, k20]
def interned : List (Array UInt16 × Addr) := []
def slotsUsed : Nat := 10
def theMethod : MethodId := ⟨1, 2⟩
def args0 : Array Value := #[.int 5, .int 6, .int 7, .int 8, .int 9, .int 10]
def aboutOver (below : List Frame) : State where
  vm := { classes := classes, interned := interned.toArray }
  heap := heap
  slotsUsed := slotsUsed
  threads := #[{ frames := .invoking theMethod args0 :: below }]
def below0 : List Frame := [.native { method := ⟨0, 0⟩, args := #[] }]
def about1 : State := aboutOver below0
def p0 : Program := .bare "" "" ""
def e0 : Env := launch0.env 0 0 0
theorem w_frames : about1.frames = Frame.invoking theMethod args0 :: below0 := rfl
set_option maxRecDepth 65536 in
theorem w_args : argsFit about1.vm theMethod args0 = true := by decide +kernel
set_option maxRecDepth 65536 in
theorem w_heap : heapFits about1 = true := by decide +kernel
set_option maxRecDepth 65536 in
theorem w_runnable : about1.curStatus? = some .runnable := by decide +kernel
set_option maxRecDepth 65536 in
theorem w_alone : about1.alone = true := by decide +kernel
set_option maxRecDepth 65536 in
theorem w_named : about1.methodNamed? x = some theMethod := by decide +kernel
set_option maxRecDepth 65536 in
theorem w_hears : about1.hears theMethod below0 = true := by decide +kernel
set_option maxRecDepth 65536 in
theorem w_ripe : about1.ripe theMethod args0 below0 = true := by decide +kernel
theorem w_running : about1.status = .running := rfl
set_option maxRecDepth 65536 in
theorem w_room : about1.hasRoom e0.platform room_1 = true :=
  launch0.hasRoom_least _ room_1 (by decide +kernel) (by decide +kernel) (by decide +kernel) (by decide +kernel) (by decide +kernel) (by decide +kernel)
theorem allAtoms_all (ts : List Jvm.Cond) (a : Array Jvm.Value) (st : Jvm.State) : (allAtoms ts).before a st = ts.all (fun c => c.before a st) := by
  induction ts with
  | nil => rfl
  | cons c t ih =>
    show (Jvm.Cond.and c (allAtoms t)).before a st = _
    rw [Jvm.Cond.before_and, ih, List.all_cons]
def words1 : List Jvm.Cond := Jvm.Cond.code x code maxLocals ret :: tables_1
/-- a 'code' word, met by the world's own term for the bytes: nothing is compared byte by byte -/
theorem code_word {y : MethodName} {bytes : ByteArray} {mx : Nat} {rt : Option FieldType} {a : Array Value} {s : State} {m : MethodId} {meth : Method} {c : Code} (h1 : s.methodNamed? y = some m) (h2 : s.vm.method? m = some meth) (h3 : meth.code = some c) (h4 : c.code = bytes)
    (h5 : (c.maxLocals == mx && c.exceptionTable.isEmpty && decide (c.maxStack ≤ mostOperands) && decide (meth.sig.returnType = rt) && !meth.locks && decide (parseMethodDescriptor y.desc = some meth.sig)) = true) : (Jvm.Cond.code y bytes mx rt).before a s = true := by
  simp only [Bool.and_eq_true, beq_iff_eq, Bool.not_eq_true', decide_eq_true_eq] at h5
  obtain ⟨⟨⟨⟨⟨g1, g2⟩, g3⟩, g4⟩, g5⟩, g6⟩ := h5
  simp [Cond.before, Cond.holds, Cond.value, h1, h2, h3, h4, g1, g2, g3, g4, g5, g6]
def isCode : Jvm.Cond → Bool
  | .code _ _ _ _ => true
  | _ => false
theorem all_split {L : List Jvm.Cond} {P : Jvm.Cond → Bool} (h1 : L.all (fun c => isCode c || P c) = true) (h2 : ∀ c ∈ L.filter isCode, P c = true) : L.all P = true := by
  refine List.all_eq_true.mpr fun c hc => ?_
  have h := List.all_eq_true.mp h1 c hc
  rcases Bool.eq_false_or_eq_true (isCode c) with hi | hi
  · exact h2 c (List.mem_filter.mpr ⟨hc, hi⟩)
  · simpa [hi] using h
set_option maxRecDepth 65536 in
theorem w_c0 : (Jvm.Cond.code x code maxLocals ret).before args0 about1 = true := code_word (m := ⟨1, 2⟩) (meth := k1m2) (c := k1c2) (by decide +kernel) rfl rfl rfl (by decide +kernel)
set_option maxRecDepth 65536 in
theorem w_c1 : (Jvm.Cond.code ({ cls := "com/example/banyan/banyan/language/RoleNamedPinLaw", name := "str", desc := "(ICCC)Ljava/lang/String;" } : Jvm.MethodName) method_2_code (4 : Nat) (Option.some (Jvm.ClassFile.FieldType.object "java/lang/String"))).before args0 about1 = true := code_word (m := ⟨1, 1⟩) (meth := k1m1) (c := k1c1) (by decide +kernel) rfl rfl rfl (by decide +kernel)
set_option maxRecDepth 65536 in
theorem w_c2 : (Jvm.Cond.code ({ cls := "java/lang/String", name := "<init>", desc := "([C)V" } : Jvm.MethodName) jdk_42_method_3_code (2 : Nat) (Option.none : Option Jvm.ClassFile.FieldType)).before args0 about1 = true := code_word (m := ⟨7, 1⟩) (meth := k7m1) (c := k7c1) (by decide +kernel) rfl rfl rfl (by decide +kernel)
set_option maxRecDepth 65536 in
theorem w_c3 : (Jvm.Cond.code ({ cls := "java/lang/String", name := "<init>", desc := "([CIILjava/lang/Void;)V" } : Jvm.MethodName) jdk_42_method_149_code (6 : Nat) (Option.none : Option Jvm.ClassFile.FieldType)).before args0 about1 = true := code_word (m := ⟨7, 4⟩) (meth := k7m4) (c := k7c4) (by decide +kernel) rfl rfl rfl (by decide +kernel)
set_option maxRecDepth 65536 in
theorem w_c4 : (Jvm.Cond.code ({ cls := "java/lang/Object", name := "<init>", desc := "()V" } : Jvm.MethodName) object_method_1_code (1 : Nat) (Option.none : Option Jvm.ClassFile.FieldType)).before args0 about1 = true := code_word (m := ⟨0, 0⟩) (meth := k0m0) (c := k0c0) (by decide +kernel) rfl rfl rfl (by decide +kernel)
set_option maxRecDepth 65536 in
theorem w_c5 : (Jvm.Cond.code ({ cls := "java/lang/String", name := "valueOf", desc := "(C)Ljava/lang/String;" } : Jvm.MethodName) jdk_42_method_139_code (1 : Nat) (Option.some (Jvm.ClassFile.FieldType.object "java/lang/String"))).before args0 about1 = true := code_word (m := ⟨7, 3⟩) (meth := k7m3) (c := k7c3) (by decide +kernel) rfl rfl rfl (by decide +kernel)
set_option maxRecDepth 65536 in
theorem w_c6 : (Jvm.Cond.code ({ cls := "java/lang/StringLatin1", name := "canEncode", desc := "(C)Z" } : Jvm.MethodName) jdk_43_method_3_code (1 : Nat) (Option.some Jvm.ClassFile.FieldType.boolean)).before args0 about1 = true := code_word (m := ⟨8, 1⟩) (meth := k8m1) (c := k8c1) (by decide +kernel) rfl rfl rfl (by decide +kernel)
set_option maxRecDepth 65536 in
theorem w_c7 : (Jvm.Cond.code ({ cls := "java/lang/StringLatin1", name := "toBytes", desc := "(C)[B" } : Jvm.MethodName) jdk_43_method_46_code (1 : Nat) (Option.some (Jvm.ClassFile.FieldType.array Jvm.ClassFile.FieldType.byte))).before args0 about1 = true := code_word (m := ⟨8, 3⟩) (meth := k8m3) (c := k8c3) (by decide +kernel) rfl rfl rfl (by decide +kernel)
set_option maxRecDepth 65536 in
theorem w_c8 : (Jvm.Cond.code ({ cls := "java/lang/String", name := "<init>", desc := "([BB)V" } : Jvm.MethodName) jdk_42_method_151_code (3 : Nat) (Option.none : Option Jvm.ClassFile.FieldType)).before args0 about1 = true := code_word (m := ⟨7, 5⟩) (meth := k7m5) (c := k7c5) (by decide +kernel) rfl rfl rfl (by decide +kernel)
set_option maxRecDepth 65536 in
theorem w_c9 : (Jvm.Cond.code ({ cls := "com/example/banyan/banyan/language/Role", name := "named", desc := "(Ljava/lang/String;)Lcom/example/banyan/banyan/language/Role;" } : Jvm.MethodName) prog_6_method_2_code (1 : Nat) (Option.some (Jvm.ClassFile.FieldType.object "com/example/banyan/banyan/language/Role"))).before args0 about1 = true := code_word (m := ⟨9, 1⟩) (meth := k9m1) (c := k9c1) (by decide +kernel) rfl rfl rfl (by decide +kernel)
set_option maxRecDepth 65536 in
theorem w_c10 : (Jvm.Cond.code ({ cls := "java/util/Objects", name := "requireNonNull", desc := "(Ljava/lang/Object;)Ljava/lang/Object;" } : Jvm.MethodName) jdk_31_method_10_code (1 : Nat) (Option.some (Jvm.ClassFile.FieldType.object "java/lang/Object"))).before args0 about1 = true := code_word (m := ⟨10, 1⟩) (meth := k10m1) (c := k10c1) (by decide +kernel) rfl rfl rfl (by decide +kernel)
set_option maxRecDepth 65536 in
theorem w_c11 : (Jvm.Cond.code ({ cls := "com/example/banyan/banyan/language/Role", name := "<init>", desc := "(Ljava/lang/String;Z)V" } : Jvm.MethodName) prog_6_method_1_code (3 : Nat) (Option.none : Option Jvm.ClassFile.FieldType)).before args0 about1 = true := code_word (m := ⟨9, 0⟩) (meth := k9m0) (c := k9c0) (by decide +kernel) rfl rfl rfl (by decide +kernel)
set_option maxRecDepth 65536 in
theorem w_c12 : (Jvm.Cond.code ({ cls := "com/example/banyan/banyan/language/Role", name := "name", desc := "()Ljava/lang/String;" } : Jvm.MethodName) prog_6_method_3_code (1 : Nat) (Option.some (Jvm.ClassFile.FieldType.object "java/lang/String"))).before args0 about1 = true := code_word (m := ⟨9, 2⟩) (meth := k9m2) (c := k9c2) (by decide +kernel) rfl rfl rfl (by decide +kernel)
set_option maxRecDepth 65536 in
theorem w_c13 : (Jvm.Cond.code ({ cls := "java/lang/String", name := "equals", desc := "(Ljava/lang/Object;)Z" } : Jvm.MethodName) jdk_42_method_66_code (3 : Nat) (Option.some Jvm.ClassFile.FieldType.boolean)).before args0 about1 = true := code_word (m := ⟨7, 2⟩) (meth := k7m2) (c := k7c2) (by decide +kernel) rfl rfl rfl (by decide +kernel)
set_option maxRecDepth 65536 in
theorem w_c14 : (Jvm.Cond.code ({ cls := "com/example/banyan/banyan/language/Role", name := "isInverse", desc := "()Z" } : Jvm.MethodName) prog_6_method_4_code (1 : Nat) (Option.some Jvm.ClassFile.FieldType.boolean)).before args0 about1 = true := code_word (m := ⟨9, 3⟩) (meth := k9m3) (c := k9c3) (by decide +kernel) rfl rfl rfl (by decide +kernel)
set_option maxRecDepth 65536 in
theorem w_c15 : (Jvm.Cond.code ({ cls := "com/example/banyan/banyan/language/Role", name := "equals", desc := "(Ljava/lang/Object;)Z" } : Jvm.MethodName) prog_6_method_6_code (3 : Nat) (Option.some Jvm.ClassFile.FieldType.boolean)).before args0 about1 = true := code_word (m := ⟨9, 5⟩) (meth := k9m5) (c := k9c5) (by decide +kernel) rfl rfl rfl (by decide +kernel)
set_option maxRecDepth 65536 in
theorem w_c16 : (Jvm.Cond.code ({ cls := "java/lang/StringLatin1", name := "equals", desc := "([B[B)Z" } : Jvm.MethodName) jdk_43_method_13_code (3 : Nat) (Option.some Jvm.ClassFile.FieldType.boolean)).before args0 about1 = true := code_word (m := ⟨8, 2⟩) (meth := k8m2) (c := k8c2) (by decide +kernel) rfl rfl rfl (by decide +kernel)
set_option maxRecDepth 65536 in
theorem w_c17 : (Jvm.Cond.code ({ cls := "com/example/banyan/banyan/language/Role", name := "inverse", desc := "()Lcom/example/banyan/banyan/language/Role;" } : Jvm.MethodName) prog_6_method_5_code (1 : Nat) (Option.some (Jvm.ClassFile.FieldType.object "com/example/banyan/banyan/language/Role"))).before args0 about1 = true := code_word (m := ⟨9, 4⟩) (meth := k9m4) (c := k9c4) (by decide +kernel) rfl rfl rfl (by decide +kernel)
set_option maxRecDepth 65536 in
theorem w_c18 : (Jvm.Cond.code ({ cls := "java/lang/StringUTF16", name := "compress", desc := "([CII)[B" } : Jvm.MethodName) jdk_52_method_16_code (6 : Nat) (Option.some (Jvm.ClassFile.FieldType.array Jvm.ClassFile.FieldType.byte))).before args0 about1 = true := code_word (m := ⟨11, 2⟩) (meth := k11m2) (c := k11c2) (by decide +kernel) rfl rfl rfl (by decide +kernel)
set_option maxRecDepth 65536 in
theorem w_c19 : (Jvm.Cond.code ({ cls := "java/lang/StringUTF16", name := "compress", desc := "([CI[BII)I" } : Jvm.MethodName) jdk_52_method_21_code (7 : Nat) (Option.some Jvm.ClassFile.FieldType.int)).before args0 about1 = true := code_word (m := ⟨11, 3⟩) (meth := k11m3) (c := k11c3) (by decide +kernel) rfl rfl rfl (by decide +kernel)
set_option maxRecDepth 65536 in
theorem w_c20 : (Jvm.Cond.code ({ cls := "java/lang/StringUTF16", name := "coderFromArrayLen", desc := "([BI)B" } : Jvm.MethodName) jdk_52_method_15_code (2 : Nat) (Option.some Jvm.ClassFile.FieldType.byte)).before args0 about1 = true := code_word (m := ⟨11, 1⟩) (meth := k11m1) (c := k11c1) (by decide +kernel) rfl rfl rfl (by decide +kernel)
def codes1 : List Jvm.Cond := [Jvm.Cond.code x code maxLocals ret, Jvm.Cond.code ({ cls := "com/example/banyan/banyan/language/RoleNamedPinLaw", name := "str", desc := "(ICCC)Ljava/lang/String;" } : Jvm.MethodName) method_2_code (4 : Nat) (Option.some (Jvm.ClassFile.FieldType.object "java/lang/String")), Jvm.Cond.code ({ cls := "java/lang/String", name := "<init>", desc := "([C)V" } : Jvm.MethodName) jdk_42_method_3_code (2 : Nat) (Option.none : Option Jvm.ClassFile.FieldType), Jvm.Cond.code ({ cls := "java/lang/String", name := "<init>", desc := "([CIILjava/lang/Void;)V" } : Jvm.MethodName) jdk_42_method_149_code (6 : Nat) (Option.none : Option Jvm.ClassFile.FieldType), Jvm.Cond.code ({ cls := "java/lang/Object", name := "<init>", desc := "()V" } : Jvm.MethodName) object_method_1_code (1 : Nat) (Option.none : Option Jvm.ClassFile.FieldType), Jvm.Cond.code ({ cls := "java/lang/String", name := "valueOf", desc := "(C)Ljava/lang/String;" } : Jvm.MethodName) jdk_42_method_139_code (1 : Nat) (Option.some (Jvm.ClassFile.FieldType.object "java/lang/String")), Jvm.Cond.code ({ cls := "java/lang/StringLatin1", name := "canEncode", desc := "(C)Z" } : Jvm.MethodName) jdk_43_method_3_code (1 : Nat) (Option.some Jvm.ClassFile.FieldType.boolean), Jvm.Cond.code ({ cls := "java/lang/StringLatin1", name := "toBytes", desc := "(C)[B" } : Jvm.MethodName) jdk_43_method_46_code (1 : Nat) (Option.some (Jvm.ClassFile.FieldType.array Jvm.ClassFile.FieldType.byte)), Jvm.Cond.code ({ cls := "java/lang/String", name := "<init>", desc := "([BB)V" } : Jvm.MethodName) jdk_42_method_151_code (3 : Nat) (Option.none : Option Jvm.ClassFile.FieldType), Jvm.Cond.code ({ cls := "com/example/banyan/banyan/language/Role", name := "named", desc := "(Ljava/lang/String;)Lcom/example/banyan/banyan/language/Role;" } : Jvm.MethodName) prog_6_method_2_code (1 : Nat) (Option.some (Jvm.ClassFile.FieldType.object "com/example/banyan/banyan/language/Role")), Jvm.Cond.code ({ cls := "java/util/Objects", name := "requireNonNull", desc := "(Ljava/lang/Object;)Ljava/lang/Object;" } : Jvm.MethodName) jdk_31_method_10_code (1 : Nat) (Option.some (Jvm.ClassFile.FieldType.object "java/lang/Object")), Jvm.Cond.code ({ cls := "com/example/banyan/banyan/language/Role", name := "<init>", desc := "(Ljava/lang/String;Z)V" } : Jvm.MethodName) prog_6_method_1_code (3 : Nat) (Option.none : Option Jvm.ClassFile.FieldType), Jvm.Cond.code ({ cls := "com/example/banyan/banyan/language/Role", name := "name", desc := "()Ljava/lang/String;" } : Jvm.MethodName) prog_6_method_3_code (1 : Nat) (Option.some (Jvm.ClassFile.FieldType.object "java/lang/String")), Jvm.Cond.code ({ cls := "java/lang/String", name := "equals", desc := "(Ljava/lang/Object;)Z" } : Jvm.MethodName) jdk_42_method_66_code (3 : Nat) (Option.some Jvm.ClassFile.FieldType.boolean), Jvm.Cond.code ({ cls := "com/example/banyan/banyan/language/Role", name := "isInverse", desc := "()Z" } : Jvm.MethodName) prog_6_method_4_code (1 : Nat) (Option.some Jvm.ClassFile.FieldType.boolean), Jvm.Cond.code ({ cls := "com/example/banyan/banyan/language/Role", name := "equals", desc := "(Ljava/lang/Object;)Z" } : Jvm.MethodName) prog_6_method_6_code (3 : Nat) (Option.some Jvm.ClassFile.FieldType.boolean), Jvm.Cond.code ({ cls := "java/lang/StringLatin1", name := "equals", desc := "([B[B)Z" } : Jvm.MethodName) jdk_43_method_13_code (3 : Nat) (Option.some Jvm.ClassFile.FieldType.boolean), Jvm.Cond.code ({ cls := "com/example/banyan/banyan/language/Role", name := "inverse", desc := "()Lcom/example/banyan/banyan/language/Role;" } : Jvm.MethodName) prog_6_method_5_code (1 : Nat) (Option.some (Jvm.ClassFile.FieldType.object "com/example/banyan/banyan/language/Role")), Jvm.Cond.code ({ cls := "java/lang/StringUTF16", name := "compress", desc := "([CII)[B" } : Jvm.MethodName) jdk_52_method_16_code (6 : Nat) (Option.some (Jvm.ClassFile.FieldType.array Jvm.ClassFile.FieldType.byte)), Jvm.Cond.code ({ cls := "java/lang/StringUTF16", name := "compress", desc := "([CI[BII)I" } : Jvm.MethodName) jdk_52_method_21_code (7 : Nat) (Option.some Jvm.ClassFile.FieldType.int), Jvm.Cond.code ({ cls := "java/lang/StringUTF16", name := "coderFromArrayLen", desc := "([BI)B" } : Jvm.MethodName) jdk_52_method_15_code (2 : Nat) (Option.some Jvm.ClassFile.FieldType.byte)]
set_option maxRecDepth 65536 in
theorem codes_eq : words1.filter isCode = codes1 := rfl
theorem w_codes : ∀ c ∈ words1.filter isCode, c.before args0 about1 = true := by
  rw [codes_eq]
  intro c hc
  simp only [codes1, List.mem_cons, List.not_mem_nil, or_false] at hc
  rcases hc with rfl | rfl | rfl | rfl | rfl | rfl | rfl | rfl | rfl | rfl | rfl | rfl | rfl | rfl | rfl | rfl | rfl | rfl | rfl | rfl | rfl
  · exact w_c0
  · exact w_c1
  · exact w_c2
  · exact w_c3
  · exact w_c4
  · exact w_c5
  · exact w_c6
  · exact w_c7
  · exact w_c8
  · exact w_c9
  · exact w_c10
  · exact w_c11
  · exact w_c12
  · exact w_c13
  · exact w_c14
  · exact w_c15
  · exact w_c16
  · exact w_c17
  · exact w_c18
  · exact w_c19
  · exact w_c20
set_option maxRecDepth 65536 in
theorem w_t1 : (words1.take 24).all (fun c => isCode c || c.before args0 about1) = true := by decide +kernel
set_option maxRecDepth 65536 in
theorem w_t2 : ((words1.drop 24).take 24).all (fun c => isCode c || c.before args0 about1) = true := by decide +kernel
set_option maxRecDepth 65536 in
theorem w_t3 : (((words1.drop 24).drop 24).take 24).all (fun c => isCode c || c.before args0 about1) = true := by decide +kernel
set_option maxRecDepth 65536 in
theorem w_t4 : ((((words1.drop 24).drop 24).drop 24).take 24).all (fun c => isCode c || c.before args0 about1) = true := by decide +kernel
set_option maxRecDepth 65536 in
theorem w_t5 : ((((words1.drop 24).drop 24).drop 24).drop 24).all (fun c => isCode c || c.before args0 about1) = true := by decide +kernel
theorem w_tables : (allAtoms (Jvm.Cond.code x code maxLocals ret :: tables_1)).before args0 about1 = true := by
  rw [allAtoms_all]
  show words1.all (fun c => c.before args0 about1) = true
  refine all_split ?_ w_codes
  rw [← List.take_append_drop 24 words1, List.all_append, w_t1, ← List.take_append_drop 24 (words1.drop 24), List.all_append, w_t2, ← List.take_append_drop 24 ((words1.drop 24).drop 24), List.all_append, w_t3, ← List.take_append_drop 24 (((words1.drop 24).drop 24).drop 24), List.all_append, w_t4, w_t5]
  rfl
set_option maxRecDepth 65536 in
theorem w_rest : rest_1_c.before args0 about1 = true := by decide +kernel
set_option maxRecDepth 65536 in
theorem w_case : (Jvm.Cond.and given_1 narrow_1).before args0 about1 = true := by decide +kernel
set_option maxRecDepth 65536 in
theorem w_consts : constsHeld consts_1 about1 := Jvm.Lit.constsHeldB_iff.mp (by decide +kernel)
theorem w_applies : (headSpec (Jvm.Cond.code x code maxLocals ret :: tables_1) room_1).applies x e0.platform about1 = true :=
  (Spec.applies_iff w_frames).mpr ⟨w_running, w_runnable, w_alone, w_named, w_hears, w_ripe, w_room, w_tables⟩
theorem atStart : AtStart classFile x code maxLocals ret World_1 tables_1 room_1 Calls_1 rest_1 Pre_1 launch0 p0 e0 about1 theMethod args0 below0 :=
  ⟨lists_1, trivial, launch0.admits_env _ _ _, launch0.least_env, fairChoices_fair.cas, fairChoices_fair.clock, w_frames, w_args, w_heap, w_applies, ⟨w_consts, trivial⟩, w_rest, w_case⟩
end start1
theorem witness_1 : WitnessClaimed_1 := ⟨start1.p0, start1.e0, start1.about1, start1.theMethod, start1.args0, start1.below0, start1.atStart⟩
end Jvm.Pilot.@@N@@
