import JvmDerived
import JvmDerived.Pilot.@@N@@Statement
import JvmDerived.Pilot.@@N@@Code
set_option linter.unusedVariables false
set_option linter.unusedSimpArgs false
/- laws to paste: Road.backV, Road.eqW, Road.codOf (cut by pick.py; bodies as the Statement names them) -/
namespace Jvm.Pilot.@@N@@
namespace StrChars
open Jvm Sem ClassFile Op Lib Jvm.Stand Jvm.Free.XT Jvm.Free.ALB Jvm.Free.JM Jvm.Free
open Jvm.Lib.Cold (StaticIs)
/-- a char array whose places are chars -/
def Ch (a : Addr) (A : Cell) (U : State) : Prop := Arr .char a A U ∧ Typed .char A
theorem Ch.mv {a : Addr} {A : Cell} {U U' : State} (h : Ch a A U) (hal : U.vm.Alike U'.vm) (hh : U'.heap = U.heap) : Ch a A U' := ⟨h.1.mv hal hh, h.2⟩
theorem Ch.keep {a : Addr} {A : Cell} {U U' : State} (h : Ch a A U) (hal : U.vm.Alike U'.vm) (hk : U'.heap[a]? = some A) : Ch a A U' := ⟨h.1.keep hal hk, h.2⟩
/-- what place i of a char[]'s cell holds -/
def cv (A : Cell) (i : Nat) : Int32 := match A.slots[i]? with | some (.int x) => x | _ => 0
theorem Ch.get {a : Addr} {A : Cell} {U : State} (h : Ch a A U) {i : Nat} (hi : i < A.slots.size) : A.slots[i]? = some (.int (cv A i)) := by
  have e := Array.getElem?_eq_getElem hi
  have f := h.2 i _ e
  unfold cv; rw [e]
  generalize A.slots[i] = v at f
  cases v <;> simp [fits] at f ⊢
/-- the byte that i2b leaves of a char -/
def lo8 (x : Int32) : Int32 := x.toInt8.toInt32
theorem fits_lo8 (y : Int32) : fits .byte (.int (lo8 y)) = true := by
  have h1 := y.toInt8.le_toInt
  have h2 := y.toInt8.toInt_lt
  simp only [lo8, fits, Bool.and_eq_true, decide_eq_true_eq, Int32.le_iff_toInt_le, Int8.toInt_toInt32, show (-128 : Int32).toInt = -128 from by decide, show (127 : Int32).toInt = 127 from by decide]
  omega
/-- A' is A but that each place j of lo .. hi - 1 holds f j -/
def Laid (A A' : Cell) (lo hi : Nat) (f : Nat → Value) : Prop := A'.cls = A.cls ∧ A'.vm = A.vm ∧ A'.slots.size = A.slots.size ∧ ∀ i, A'.slots[i]? = if lo ≤ i ∧ i < hi then some (f i) else A.slots[i]?
theorem Laid.zero (A : Cell) (lo : Nat) (f : Nat → Value) : Laid A A lo (lo + 0) f := ⟨rfl, rfl, rfl, fun i => by rw [if_neg (by omega)]⟩
theorem Laid.step {A Ak : Cell} {lo k : Nat} {f : Nat → Value} {v : Value} (h : Laid A Ak lo k f) (hlo : lo ≤ k) (hk : k < Ak.slots.size) (hv : v = f k) : Laid A (Ak.setSlot k v) lo (k + 1) f := by
  refine ⟨h.1, h.2.1, by simpa [Cell.setSlot] using h.2.2.1, fun i => ?_⟩
  by_cases e : k = i
  · subst e; rw [Cell.slots_setSlot_self v hk, if_pos (by omega), hv]
  · rw [Cell.slots_setSlot_ne v e, h.2.2.2 i]
    by_cases q : lo ≤ i ∧ i < k
    · rw [if_pos q, if_pos (by omega)]
    · rw [if_neg q, if_neg (by omega)]
def U16 : String := "java/lang/StringUTF16"
namespace Cmp5
def yN : MethodName := ⟨"java/lang/StringUTF16", "compress", "([CI[BII)I"⟩
abbrev yB : ByteArray := jdk_52_method_21_code
theorem d0 : decode yB 0 = .ok (.iconst 0, 1) := by decide +kernel
theorem d1 : decode yB 1 = .ok (.istore 5, 2) := by decide +kernel
theorem d3 : decode yB 3 = .ok (.iload 5, 2) := by decide +kernel
theorem d5 : decode yB 5 = .ok (.iload 4, 2) := by decide +kernel
theorem d7 : decode yB 7 = .ok (.if_icmp (.ge) 37, 3) := by decide +kernel
theorem d10 : decode yB 10 = .ok (.aload_n 0, 1) := by decide +kernel
theorem d11 : decode yB 11 = .ok (.iload_n 1, 1) := by decide +kernel
theorem d12 : decode yB 12 = .ok (.caload, 1) := by decide +kernel
theorem d13 : decode yB 13 = .ok (.istore 6, 2) := by decide +kernel
theorem d15 : decode yB 15 = .ok (.iload 6, 2) := by decide +kernel
theorem d17 : decode yB 17 = .ok (.sipush 255, 3) := by decide +kernel
theorem d20 : decode yB 20 = .ok (.if_icmp (.le) 6, 3) := by decide +kernel
theorem d26 : decode yB 26 = .ok (.aload_n 2, 1) := by decide +kernel
theorem d27 : decode yB 27 = .ok (.iload_n 3, 1) := by decide +kernel
theorem d28 : decode yB 28 = .ok (.iload 6, 2) := by decide +kernel
theorem d30 : decode yB 30 = .ok (.i2b, 1) := by decide +kernel
theorem d31 : decode yB 31 = .ok (.bastore, 1) := by decide +kernel
theorem d32 : decode yB 32 = .ok (.iinc 1 1, 3) := by decide +kernel
theorem d35 : decode yB 35 = .ok (.iinc 3 1, 3) := by decide +kernel
theorem d38 : decode yB 38 = .ok (.iinc 5 1, 3) := by decide +kernel
theorem d41 : decode yB 41 = .ok (.goto (-38), 3) := by decide +kernel
theorem d44 : decode yB 44 = .ok (.iload 4, 2) := by decide +kernel
theorem d46 : decode yB 46 = .ok (.ireturn, 1) := by decide +kernel
def site : List Cond := []
def tab : Cond := tabOf yN yB 7 (some .int) site
def P (b : Addr) (A : Cell) (d : Addr) (B : Cell) (o q len : Nat) (args : Array Value) (s : State) : Prop := args = #[.ref b, .int (Int32.ofNat o), .ref d, .int (Int32.ofNat q), .int (Int32.ofNat len)] ∧ Ch b A s ∧ Arr .byte d B s ∧ b ≠ d ∧ o + len ≤ A.slots.size ∧ q + len ≤ B.slots.size ∧ ∀ i, i < len → ¬ 255 < cv A (o + i)
def E (b : Addr) (A : Cell) (d : Addr) (B : Cell) (o q len : Nat) (r : Option Value) (s u : State) : Prop := r = some (.int (Int32.ofNat len)) ∧ ∃ B', Put d B' s u ∧ Laid B B' q (q + len) (fun j => Value.int (lo8 (cv A (o + (j - q)))))
/-- no char of the range above 255: len; the places written hold each char's low byte -/
theorem law (l : Launch) (b : Addr) (A : Cell) (d : Addr) (B : Cell) (o q len : Nat) : Law l yN 5 5 0 0 yB 7 (some .int) site (P b A d B o q len) (E b A d B o q len) (copyLocs d q len) 0 0 := by
  refine Law.of_walk (plainFor_of_name (by decide +kernel)) (by decide +kernel) (by decide +kernel) (by decide) (fun _ _ h => by rw [h.1]; rfl) (fun _ U U' hal hh h => ⟨h.1, h.2.1.mv hal hh, h.2.2.1.mv hal hh, h.2.2.2⟩) (fun r U U' V V' h1 hal h2 h => ⟨h.1, h.2.elim fun B' q => ⟨B', q.1.mv h1 h2, q.2⟩⟩) ?_
  intro p e s m args below meth c s₁ X0 hexec hbytes hml hret hlk hnm hown hh0 W hP
  obtain ⟨rfl, hA, hB, hne, l1, l2, hp⟩ := hP
  have c1 : Steps p.tables e below (s₁.setTop (entryFrame m #[.ref b, .int (Int32.ofNat o), .ref d, .int (Int32.ofNat q), .int (Int32.ofNat len)] 7)) (s₁.setTop (mkF m 0 #[.val (.ref b), .val (.int (Int32.ofNat o)), .val (.ref d), .val (.int (Int32.ofNat q)), .val (.int (Int32.ofNat len)), .unset, .unset] [])) := entry rfl
  have hA0 := hA.1.mv X0.warmed.alike hh0
  have hB0 := hB.mv X0.warmed.alike hh0
  have a31 := hA.1.2.2.2
  have c2 : Steps p.tables e below (s₁.setTop (entryFrame m #[.ref b, .int (Int32.ofNat o), .ref d, .int (Int32.ofNat q), .int (Int32.ofNat len)] 7)) (s₁.setTop (mkF m 3 #[.val (.ref b), .val (.int (Int32.ofNat o)), .val (.ref d), .val (.int (Int32.ofNat q)), .val (.int (Int32.ofNat len)), .val (.int 0), .unset] [])) := c1.trans (by
    refine iconstV X0.here hexec rfl 0 (hb hbytes d0) (by decide) ?_
    refine XS.istore X0.here hexec rfl (hb hbytes d1) rfl rfl ?_
    exact Steps.refl _)
  have loop : ∀ (r i : Nat), i + r = len → ∀ (z : Slot), (z = .unset ∨ ∃ w, z = .val w ∧ w.category = 1) → ∀ (Tl : State) (Bk : Cell), Stand p l e { frames := 0, locals := 0, cells := 0, slots := 0 } s m #[.ref b, .int (Int32.ofNat o), .ref d, .int (Int32.ofNat q), .int (Int32.ofNat len)] below meth c Tl ([] ++ copyLocs d q i) 0 0 → Put d Bk s₁ Tl → Laid B Bk q (q + i) (fun j => Value.int (lo8 (cv A (o + (j - q))))) →
      Steps p.tables e below (s₁.setTop (entryFrame m #[.ref b, .int (Int32.ofNat o), .ref d, .int (Int32.ofNat q), .int (Int32.ofNat len)] 7)) (Tl.setTop (mkF m 3 #[.val (.ref b), .val (.int (Int32.ofNat (o + i))), .val (.ref d), .val (.int (Int32.ofNat (q + i))), .val (.int (Int32.ofNat len)), .val (.int (Int32.ofNat i)), z] [])) → ∃ (T' : State) (B' : Cell) (z' : Slot), Stand p l e { frames := 0, locals := 0, cells := 0, slots := 0 } s m #[.ref b, .int (Int32.ofNat o), .ref d, .int (Int32.ofNat q), .int (Int32.ofNat len)] below meth c T' ([] ++ copyLocs d q len) 0 0 ∧ Put d B' s₁ T' ∧ Laid B B' q (q + len) (fun j => Value.int (lo8 (cv A (o + (j - q))))) ∧
      Steps p.tables e below (s₁.setTop (entryFrame m #[.ref b, .int (Int32.ofNat o), .ref d, .int (Int32.ofNat q), .int (Int32.ofNat len)] 7)) (T'.setTop (mkF m 3 #[.val (.ref b), .val (.int (Int32.ofNat (o + len))), .val (.ref d), .val (.int (Int32.ofNat (q + len))), .val (.int (Int32.ofNat len)), .val (.int (Int32.ofNat len)), z'] [])) := by
    intro r
    induction r with
    | zero =>
      intro i hi z hz Tl Bk Xl pl fl cl
      have hil : i = len := by omega
      rw [hil] at Xl fl cl
      exact ⟨Tl, Bk, z, Xl, pl, fl, cl⟩
    | succ r ih =>
      intro i hi z hz Tl Bk Xl pl fl cl
      have all := X0.warmed.alike.symm.trans Xl.warmed.alike
      have hAl := hA0.keep all (pl.other hne hA0.1)
      have hBk := hB0.like all pl.1 fl.1 fl.2.1 fl.2.2.1
      have hlt : q + i < Bk.slots.size := by rw [fl.2.2.1]; omega
      have c3 : Steps p.tables e below (s₁.setTop (entryFrame m #[.ref b, .int (Int32.ofNat o), .ref d, .int (Int32.ofNat q), .int (Int32.ofNat len)] 7)) (Tl.setTop (mkF m 12 #[.val (.ref b), .val (.int (Int32.ofNat (o + i))), .val (.ref d), .val (.int (Int32.ofNat (q + i))), .val (.int (Int32.ofNat len)), .val (.int (Int32.ofNat i)), z] [.int (Int32.ofNat (o + i)), .ref b])) := cl.trans (by
        refine XS.iload Xl.here hexec rfl (hb hbytes d3) rfl ?_
        refine XS.iload Xl.here hexec rfl (hb hbytes d5) rfl ?_
        refine XS.icmpNo Xl.here hexec rfl (hb hbytes d7) rfl (ii_ge_f (lt32 (by omega) (by omega))) ?_
        refine XS.aloadN Xl.here hexec rfl (hb hbytes d10) rfl rfl ?_
        refine XS.iloadN Xl.here hexec rfl (hb hbytes d11) rfl ?_
        exact Steps.refl _)
      have c4 : Steps p.tables e below (s₁.setTop (entryFrame m #[.ref b, .int (Int32.ofNat o), .ref d, .int (Int32.ofNat q), .int (Int32.ofNat len)] 7)) (Tl.setTop (mkF m 13 #[.val (.ref b), .val (.int (Int32.ofNat (o + i))), .val (.ref d), .val (.int (Int32.ofNat (q + i))), .val (.int (Int32.ofNat len)), .val (.int (Int32.ofNat i)), z] [.int (cv A (o + i))])) := c3.trans (by
        refine Xl.aget hexec hAl rfl (hA.get (i := o + i) (by omega)) rfl rfl (hb hbytes d12) ?_
        exact Steps.refl _)
      have c5 : Steps p.tables e below (s₁.setTop (entryFrame m #[.ref b, .int (Int32.ofNat o), .ref d, .int (Int32.ofNat q), .int (Int32.ofNat len)] 7)) (Tl.setTop (mkF m 15 #[.val (.ref b), .val (.int (Int32.ofNat (o + i))), .val (.ref d), .val (.int (Int32.ofNat (q + i))), .val (.int (Int32.ofNat len)), .val (.int (Int32.ofNat i)), .val (.int (cv A (o + i)))] [])) := c4.trans (by
        refine XS.istoreS Xl.here hexec rfl (hb hbytes d13) rfl rfl hz ?_
        exact Steps.refl _)
      have c6 : Steps p.tables e below (s₁.setTop (entryFrame m #[.ref b, .int (Int32.ofNat o), .ref d, .int (Int32.ofNat q), .int (Int32.ofNat len)] 7)) (Tl.setTop (mkF m 31 #[.val (.ref b), .val (.int (Int32.ofNat (o + i))), .val (.ref d), .val (.int (Int32.ofNat (q + i))), .val (.int (Int32.ofNat len)), .val (.int (Int32.ofNat i)), .val (.int (cv A (o + i)))] [.int (lo8 (cv A (o + i))), .int (Int32.ofNat (q + i)), .ref d])) := c5.trans (by
        refine XS.iload Xl.here hexec rfl (hb hbytes d15) rfl ?_
        refine sipushV Xl.here hexec rfl 255 (hb hbytes d17) (by decide) ?_
        refine XS.icmpYes Xl.here hexec rfl (pc0 := 20) rfl (hb hbytes d20) rfl (ii_le_t (hp i (by omega))) (by decide) rfl ?_
        refine XS.aloadN Xl.here hexec rfl (hb hbytes d26) rfl rfl ?_
        refine XS.iloadN Xl.here hexec rfl (hb hbytes d27) rfl ?_
        refine XS.iload Xl.here hexec rfl (hb hbytes d28) rfl ?_
        refine i2b Xl.here hexec rfl (hb hbytes d30) rfl ?_
        exact Steps.refl _)
      obtain ⟨T7, X7, p7, st7⟩ := Xl.aput hexec hBk rfl hlt rfl (fits_lo8 (cv A (o + i))) (g := (mkF m 31 #[.val (.ref b), .val (.int (Int32.ofNat (o + i))), .val (.ref d), .val (.int (Int32.ofNat (q + i))), .val (.int (Int32.ofNat len)), .val (.int (Int32.ofNat i)), .val (.int (cv A (o + i)))] [.int (lo8 (cv A (o + i))), .int (Int32.ofNat (q + i)), .ref d])) rfl (rest := []) rfl (hb hbytes d31)
      have c8 : Steps p.tables e below (s₁.setTop (entryFrame m #[.ref b, .int (Int32.ofNat o), .ref d, .int (Int32.ofNat q), .int (Int32.ofNat len)] 7)) (T7.setTop (mkF m 32 #[.val (.ref b), .val (.int (Int32.ofNat (o + i))), .val (.ref d), .val (.int (Int32.ofNat (q + i))), .val (.int (Int32.ofNat len)), .val (.int (Int32.ofNat i)), .val (.int (cv A (o + i)))] [])) := c6.trans (st7 _ (Steps.refl _))
      have c9 : Steps p.tables e below (s₁.setTop (entryFrame m #[.ref b, .int (Int32.ofNat o), .ref d, .int (Int32.ofNat q), .int (Int32.ofNat len)] 7)) (T7.setTop (mkF m 3 #[.val (.ref b), .val (.int (Int32.ofNat (o + i) + 1)), .val (.ref d), .val (.int (Int32.ofNat (q + i) + 1)), .val (.int (Int32.ofNat len)), .val (.int (Int32.ofNat i + 1)), .val (.int (cv A (o + i)))] [])) := c8.trans (by
        refine iincV X7.here hexec rfl 1 (hb hbytes d32) (by decide) rfl rfl ?_
        refine iincV X7.here hexec rfl 1 (hb hbytes d35) (by decide) rfl rfl ?_
        refine iincV X7.here hexec rfl 1 (hb hbytes d38) (by decide) rfl rfl ?_
        refine XS.goto X7.here hexec rfl (pc0 := 41) rfl (hb hbytes d41) (by decide) rfl ?_
        exact Steps.refl _)
      have c10 : Steps p.tables e below (s₁.setTop (entryFrame m #[.ref b, .int (Int32.ofNat o), .ref d, .int (Int32.ofNat q), .int (Int32.ofNat len)] 7)) (T7.setTop (mkF m 3 #[.val (.ref b), .val (.int (Int32.ofNat (o + (i + 1)))), .val (.ref d), .val (.int (Int32.ofNat (q + (i + 1)))), .val (.int (Int32.ofNat len)), .val (.int (Int32.ofNat (i + 1))), .val (.int (cv A (o + i)))] [])) := by
        have := c9
        rw [succ32, succ32, succ32] at this
        exact this
      exact ih (i + 1) (by omega) _ (Or.inr ⟨_, rfl, rfl⟩) T7 _ (by rw [copyLocs_step, ← List.append_assoc]; exact X7) (pl.trans p7) (fl.step (by omega) hlt (by simp)) c10
  obtain ⟨T9, B9, z9, X9, p9, f9, g9⟩ := loop len 0 (by omega) .unset (Or.inl rfl) s₁ B (by simpa [copyLocs] using X0) ⟨hB0.1, fun _ _ => rfl, rfl⟩ (Laid.zero _ _ _) c2
  have c11 : Steps p.tables e below (s₁.setTop (entryFrame m #[.ref b, .int (Int32.ofNat o), .ref d, .int (Int32.ofNat q), .int (Int32.ofNat len)] 7)) (T9.setTop (mkF m 46 #[.val (.ref b), .val (.int (Int32.ofNat (o + len))), .val (.ref d), .val (.int (Int32.ofNat (q + len))), .val (.int (Int32.ofNat len)), .val (.int (Int32.ofNat len)), z9] [.int (Int32.ofNat len)])) := g9.trans (by
    refine XS.iload X9.here hexec rfl (hb hbytes d3) rfl ?_
    refine XS.iload X9.here hexec rfl (hb hbytes d5) rfl ?_
    refine XS.icmpYes X9.here hexec rfl (pc0 := 7) rfl (hb hbytes d7) rfl (ii_ge_t (nlt32 (by omega) (Nat.le_refl _))) (by decide) rfl ?_
    refine XS.iload X9.here hexec rfl (hb hbytes d44) rfl ?_
    exact Steps.refl _)
  exact ⟨T9, some (.int (Int32.ofNat len)), _, _, _, X9, by simp, rfl, rfl, (fun h => by cases h), ⟨rfl, B9, p9.from hh0, f9⟩, fun fs hl => c11.trans (X9.ireturnOut hexec hret rfl (Or.inl rfl) (hb hbytes d46) hl)⟩
end Cmp5
namespace Cmp3
def yN : MethodName := ⟨"java/lang/StringUTF16", "compress", "([CII)[B"⟩
abbrev yB : ByteArray := jdk_52_method_16_code
theorem d0 : decode yB 0 = .ok (.iload_n 2, 1) := by decide +kernel
theorem d1 : decode yB 1 = .ok (.newarray .byte, 2) := by decide +kernel
theorem d3 : decode yB 3 = .ok (.astore_n 3, 1) := by decide +kernel
theorem d4 : decode yB 4 = .ok (.aload_n 0, 1) := by decide +kernel
theorem d5 : decode yB 5 = .ok (.iload_n 1, 1) := by decide +kernel
theorem d6 : decode yB 6 = .ok (.aload_n 3, 1) := by decide +kernel
theorem d7 : decode yB 7 = .ok (.iconst 0, 1) := by decide +kernel
theorem d8 : decode yB 8 = .ok (.iload_n 2, 1) := by decide +kernel
theorem d9 : decode yB 9 = .ok (.invokestatic 115, 3) := by decide +kernel
theorem d12 : decode yB 12 = .ok (.istore 4, 2) := by decide +kernel
theorem d14 : decode yB 14 = .ok (.iload 4, 2) := by decide +kernel
theorem d16 : decode yB 16 = .ok (.iload_n 2, 1) := by decide +kernel
theorem d17 : decode yB 17 = .ok (.if_icmp (.eq) 40, 3) := by decide +kernel
theorem d57 : decode yB 57 = .ok (.aload_n 3, 1) := by decide +kernel
theorem d58 : decode yB 58 = .ok (.areturn, 1) := by decide +kernel
def site : List Cond := [.arrayClass .byte, Cmp5.tab] ++ staticW U16 115 Cmp5.yN
def tab : Cond := tabOf yN yB 6 (some (.array .byte)) site
def P (b : Addr) (A : Cell) (o len : Nat) (args : Array Value) (s : State) : Prop := args = #[.ref b, .int (Int32.ofNat o), .int (Int32.ofNat len)] ∧ Ch b A s ∧ o + len ≤ A.slots.size ∧ len ≤ 536870912 ∧ ∀ i, i < len → ¬ 255 < cv A (o + i)
def E (b : Addr) (A : Cell) (o len : Nat) (r : Option Value) (s u : State) : Prop := NewArr .byte "[B" len (fun j => .int (lo8 (cv A (o + j)))) r s u ∧ u.heap.size = s.heap.size + 1
/-- no char of the range above 255: a new byte[] of their low bytes -/
theorem law (l : Launch) (b : Addr) (A : Cell) (o len : Nat) : Law l yN 3 3 1 18 yB 6 (some (.array .byte)) site (P b A o len) (E b A o len) [] 1 len := by
  refine Law.of_walk (plainFor_of_name (by decide +kernel)) (by decide +kernel) (by decide +kernel) (by decide) (fun _ _ h => by rw [h.1]; rfl) (fun _ U U' hal hh h => ⟨h.1, h.2.1.mv hal hh, h.2.2⟩) (fun r U U' V V' h1 hal h2 h => ⟨NewArr.mv r U U' V V' h1 hal h2 h.1, by rw [h1, h2]; exact h.2⟩) ?_
  intro p e s m args below meth c s₁ X0 hexec hbytes hml hret hlk hnm hown hh0 W hP
  obtain ⟨rfl, hA, l1, l2, hp⟩ := hP
  have a31 := hA.1.2.2.2
  have c1 : Steps p.tables e below (s₁.setTop (entryFrame m #[.ref b, .int (Int32.ofNat o), .int (Int32.ofNat len)] 6)) (s₁.setTop (mkF m 0 #[.val (.ref b), .val (.int (Int32.ofNat o)), .val (.int (Int32.ofNat len)), .unset, .unset, .unset] [])) := entry rfl
  have c2 : Steps p.tables e below (s₁.setTop (entryFrame m #[.ref b, .int (Int32.ofNat o), .int (Int32.ofNat len)] 6)) (s₁.setTop (mkF m 1 #[.val (.ref b), .val (.int (Int32.ofNat o)), .val (.int (Int32.ofNat len)), .unset, .unset, .unset] [.int (Int32.ofNat len)])) := c1.trans (by
    refine XS.iloadN X0.here hexec rfl (hb hbytes d0) rfl ?_
    exact Steps.refl _)
  obtain ⟨T3, B3, X3, ba3, bs3, bv3, bh3, bf3, st3⟩ := X0.anew hexec (atype := .byte) (wk W (.arrayClass .byte)) rfl (by show len * 1 ≤ _; omega) (by omega) (g := (mkF m 1 #[.val (.ref b), .val (.int (Int32.ofNat o)), .val (.int (Int32.ofNat len)), .unset, .unset, .unset] [.int (Int32.ofNat len)])) rfl (hb hbytes d1) (rest := []) rfl (Nat.le_refl _) (by show 0 + len ≤ len; omega)
  rw [hh0] at ba3 st3
  have kp3 : XT.Kept s T3 := (XT.Kept.of_eq hh0).push bh3
  have hA3 := hA.keep X3.warmed.alike (kp3 _ _ hA.1.1)
  have hne : b ≠ s.heap.size := hA.1.ne
  have c4 : Steps p.tables e below (s₁.setTop (entryFrame m #[.ref b, .int (Int32.ofNat o), .int (Int32.ofNat len)] 6)) (T3.setTop (mkF m 3 #[.val (.ref b), .val (.int (Int32.ofNat o)), .val (.int (Int32.ofNat len)), .unset, .unset, .unset] [.ref s.heap.size])) := c2.trans (st3 _ (Steps.refl _))
  have c5 : Steps p.tables e below (s₁.setTop (entryFrame m #[.ref b, .int (Int32.ofNat o), .int (Int32.ofNat len)] 6)) (T3.setTop (mkF m 9 #[.val (.ref b), .val (.int (Int32.ofNat o)), .val (.int (Int32.ofNat len)), .val (.ref s.heap.size), .unset, .unset] [.int (Int32.ofNat len), .int 0, .ref s.heap.size, .int (Int32.ofNat o), .ref b])) := c4.trans (by
    refine XS.astoreN X3.here hexec rfl (hb hbytes d3) rfl rfl rfl ?_
    refine XS.aloadN X3.here hexec rfl (hb hbytes d4) rfl rfl ?_
    refine XS.iloadN X3.here hexec rfl (hb hbytes d5) rfl ?_
    refine XS.aloadN X3.here hexec rfl (hb hbytes d6) rfl rfl ?_
    refine iconstV X3.here hexec rfl 0 (hb hbytes d7) (by decide) ?_
    refine XS.iloadN X3.here hexec rfl (hb hbytes d8) rfl ?_
    exact Steps.refl _)
  obtain ⟨v6, T6, X6, E6, g6⟩ := X3.callS hexec (Cmp5.law l b A s.heap.size B3 o 0 len) hown (wks W (staticW U16 115 Cmp5.yN)) (wk W Cmp5.tab) (W := 0) (Nat.le_of_ble_eq_true rfl) (Nat.le_of_ble_eq_true rfl) (Nat.le_refl _) (by show 0 + len + 0 ≤ len; omega) (g := (mkF m 9 #[.val (.ref b), .val (.int (Int32.ofNat o)), .val (.int (Int32.ofNat len)), .val (.ref s.heap.size), .unset, .unset] [.int (Int32.ofNat len), .int (Int32.ofNat 0), .ref s.heap.size, .int (Int32.ofNat o), .ref b])) rfl (by rw [hml]; rfl) c5 (argsL := [.ref b, .int (Int32.ofNat o), .ref s.heap.size, .int (Int32.ofNat 0), .int (Int32.ofNat len)]) (rest := []) rfl rfl (by show 2 * 0 + 0 ≤ _; decide) (hb hbytes d9) (⟨rfl, hA3, ba3, hne, l1, by rw [bs3]; simp, hp⟩)
  obtain ⟨rfl, B6, p6, f6⟩ := E6
  have c7 : Steps p.tables e below (s₁.setTop (entryFrame m #[.ref b, .int (Int32.ofNat o), .int (Int32.ofNat len)] 6)) (T6.setTop (mkF m 12 #[.val (.ref b), .val (.int (Int32.ofNat o)), .val (.int (Int32.ofNat len)), .val (.ref s.heap.size), .unset, .unset] [.int (Int32.ofNat len)])) := g6
  have c8 : Steps p.tables e below (s₁.setTop (entryFrame m #[.ref b, .int (Int32.ofNat o), .int (Int32.ofNat len)] 6)) (T6.setTop (mkF m 58 #[.val (.ref b), .val (.int (Int32.ofNat o)), .val (.int (Int32.ofNat len)), .val (.ref s.heap.size), .val (.int (Int32.ofNat len)), .unset] [.ref s.heap.size])) := c7.trans (by
    refine XS.istore X6.here hexec rfl (hb hbytes d12) rfl rfl ?_
    refine XS.iload X6.here hexec rfl (hb hbytes d14) rfl ?_
    refine XS.iloadN X6.here hexec rfl (hb hbytes d16) rfl ?_
    refine XS.icmpYes X6.here hexec rfl (pc0 := 17) rfl (hb hbytes d17) rfl (ii_eq_t rfl) (by decide) rfl ?_
    refine XS.aloadN X6.here hexec rfl (hb hbytes d57) rfl rfl ?_
    exact Steps.refl _)
  have X8 := X6.wide (L' := []) (cells' := 1) (slots' := len) (fun x hx hlt => by
    simp only [List.nil_append, copyLocs, List.mem_map, List.mem_range] at hx
    obtain ⟨i, -, rfl⟩ := hx
    exact absurd hlt (Nat.lt_irrefl _)) (Nat.le_refl _) (by omega)
  exact ⟨T6, some (.ref s.heap.size), _, _, _, X8, rfl, rfl, rfl, (fun h => by cases h), ⟨⟨rfl, B6, ba3.like (X3.warmed.alike.symm.trans X6.warmed.alike) p6.1 f6.1 f6.2.1 f6.2.2.1, f6.2.1.trans bv3, by rw [X6.warmed.alike.findClass, f6.1]; exact bf3, by rw [f6.2.2.1, bs3]; simp, fun j hj => by rw [f6.2.2.2 j, if_pos (by omega)]; rfl, kp3.put p6 (Nat.le_refl _)⟩, by rw [p6.2.2, bh3, hh0]; simp⟩, fun fs hl => c8.trans (X8.areturnOut hexec rfl hret rfl (hb hbytes d58) hl)⟩
end Cmp3
namespace CodL
def yN : MethodName := ⟨"java/lang/StringUTF16", "coderFromArrayLen", "([BI)B"⟩
abbrev yB : ByteArray := jdk_52_method_15_code
theorem d0 : decode yB 0 = .ok (.iload_n 1, 1) := by decide +kernel
theorem d1 : decode yB 1 = .ok (.aload_n 0, 1) := by decide +kernel
theorem d2 : decode yB 2 = .ok (.arraylength, 1) := by decide +kernel
theorem d3 : decode yB 3 = .ok (.isub, 1) := by decide +kernel
theorem d4 : decode yB 4 = .ok (.bipush 31, 2) := by decide +kernel
theorem d6 : decode yB 6 = .ok (.iushr, 1) := by decide +kernel
theorem d7 : decode yB 7 = .ok (.i2b, 1) := by decide +kernel
theorem d8 : decode yB 8 = .ok (.ireturn, 1) := by decide +kernel
def site : List Cond := []
def tab : Cond := tabOf yN yB 2 (some .byte) site
def P (d : Addr) (B : Cell) (args : Array Value) (s : State) : Prop := args = #[.ref d, .int (Int32.ofNat B.slots.size)] ∧ Arr .byte d B s
def E (r : Option Value) (s u : State) : Prop := XT.PureE (some (.int 0)) r s u
/-- an array as long as the number of chars: LATIN1 -/
theorem law (l : Launch) (d : Addr) (B : Cell) : Law l yN 2 2 0 0 yB 2 (some .byte) site (P d B) E [] 0 0 := by
  refine Law.of_walk (plainFor_of_name (by decide +kernel)) (by decide +kernel) (by decide +kernel) (by decide) (fun _ _ h => by rw [h.1]; rfl) (fun _ U U' hal hh h => ⟨h.1, h.2.mv hal hh⟩) (fun r U U' V V' h1 hal h2 h => XT.PureE.mv r U U' V V' h1 hal h2 h) ?_
  intro p e s m args below meth c s₁ X0 hexec hbytes hml hret hlk hnm hown hh0 W hP
  obtain ⟨rfl, hB⟩ := hP
  have hB0 := hB.mv X0.warmed.alike hh0
  have c1 : Steps p.tables e below (s₁.setTop (entryFrame m #[.ref d, .int (Int32.ofNat B.slots.size)] 2)) (s₁.setTop (mkF m 0 #[.val (.ref d), .val (.int (Int32.ofNat B.slots.size))] [])) := entry rfl
  have c2 : Steps p.tables e below (s₁.setTop (entryFrame m #[.ref d, .int (Int32.ofNat B.slots.size)] 2)) (s₁.setTop (mkF m 2 #[.val (.ref d), .val (.int (Int32.ofNat B.slots.size))] [.ref d, .int (Int32.ofNat B.slots.size)])) := c1.trans (by
    refine XS.iloadN X0.here hexec rfl (hb hbytes d0) rfl ?_
    refine XS.aloadN X0.here hexec rfl (hb hbytes d1) rfl rfl ?_
    exact Steps.refl _)
  have c3 : Steps p.tables e below (s₁.setTop (entryFrame m #[.ref d, .int (Int32.ofNat B.slots.size)] 2)) (s₁.setTop (mkF m 8 #[.val (.ref d), .val (.int (Int32.ofNat B.slots.size))] [.int (lo8 (ushr (Int32.ofNat B.slots.size - Int32.ofNat B.slots.size) 31))])) := c2.trans (by
    refine X0.alen hexec hB0 rfl rfl (hb hbytes d2) ?_
    refine XS.isub X0.here hexec rfl (hb hbytes d3) rfl ?_
    refine bipushV X0.here hexec rfl 31 (hb hbytes d4) (by decide) ?_
    refine iushr X0.here hexec rfl (hb hbytes d6) rfl ?_
    refine i2b X0.here hexec rfl (hb hbytes d7) rfl ?_
    exact Steps.refl _)
  have e0 : lo8 (ushr (Int32.ofNat B.slots.size - Int32.ofNat B.slots.size) 31) = 0 := by rw [Int32.sub_self]; decide
  rw [e0] at c3
  exact ⟨s₁, some (.int 0), _, _, _, X0, rfl, rfl, rfl, (fun h => by cases h), ⟨rfl, hh0⟩, fun fs hl => c3.trans (X0.ireturnOut hexec hret rfl (Or.inr (Or.inr (Or.inl rfl))) (hb hbytes d8) hl)⟩
end CodL
/-- the String at a is Latin-1 over a new byte[] (the heap's one new cell): the low bytes of the len chars of A from o on; every cell but a is kept -/
def Got (a : Addr) (D : Cell) (fV fC : Field) (A : Cell) (o len : Nat) (r : Option Value) (s u : State) : Prop := r = none ∧ ∃ D' V : Cell, Blank "java/lang/String" a D' u ∧ Same D D' [fV.slot, fC.slot] ∧ D'.slots[fV.slot]? = some (.ref s.heap.size) ∧ D'.slots[fC.slot]? = some (.int 0) ∧ Arr .byte s.heap.size V u ∧ V.vm = .none ∧ u.vm.findClass "[B" = some V.cls ∧ V.slots.size = len ∧ (∀ j, j < len → V.slots[j]? = some (.int (lo8 (cv A (o + j))))) ∧ (∀ (y : Addr) (c : Cell), y ≠ a → s.heap[y]? = some c → u.heap[y]? = some c) ∧ u.heap.size = s.heap.size + 1
theorem Got.mv {a : Addr} {D A : Cell} {fV fC : Field} {o len : Nat} : ∀ r (U U' V V' : State), U'.heap = U.heap → V.vm.Alike V'.vm → V'.heap = V.heap → Got a D fV fC A o len r U V → Got a D fV fC A o len r U' V' :=
  fun r U U' V V' h1 hal h2 ⟨e0, D', X, a1, a2, a3, a4, a5, a6, a7, a8, a9, a10, a11⟩ => ⟨e0, D', X, a1.mv hal h2, a2, by rw [h1]; exact a3, a4, by rw [h1]; exact a5.mv hal h2, a6, by rw [hal.findClass]; exact a7, a8, a9, by rw [h1, h2]; exact a10, by rw [h1, h2]; exact a11⟩
namespace New4
def yN : MethodName := ⟨"java/lang/String", "<init>", "([CIILjava/lang/Void;)V"⟩
abbrev yB : ByteArray := jdk_42_method_149_code
theorem d0 : decode yB 0 = .ok (.aload_n 0, 1) := by decide +kernel
theorem d1 : decode yB 1 = .ok (.invokespecial 1, 3) := by decide +kernel
theorem d4 : decode yB 4 = .ok (.iload_n 3, 1) := by decide +kernel
theorem d5 : decode yB 5 = .ok (.ifCond (.ne) 22, 3) := by decide +kernel
theorem d27 : decode yB 27 = .ok (.getstatic 38, 3) := by decide +kernel
theorem d30 : decode yB 30 = .ok (.ifCond (.eq) 28, 3) := by decide +kernel
theorem d33 : decode yB 33 = .ok (.aload_n 1, 1) := by decide +kernel
theorem d34 : decode yB 34 = .ok (.iload_n 2, 1) := by decide +kernel
theorem d35 : decode yB 35 = .ok (.iload_n 3, 1) := by decide +kernel
theorem d36 : decode yB 36 = .ok (.invokestatic 177, 3) := by decide +kernel
theorem d39 : decode yB 39 = .ok (.astore 5, 2) := by decide +kernel
theorem d41 : decode yB 41 = .ok (.aload_n 0, 1) := by decide +kernel
theorem d42 : decode yB 42 = .ok (.aload 5, 2) := by decide +kernel
theorem d44 : decode yB 44 = .ok (.iload_n 3, 1) := by decide +kernel
theorem d45 : decode yB 45 = .ok (.invokestatic 47, 3) := by decide +kernel
theorem d48 : decode yB 48 = .ok (.putfield 15, 3) := by decide +kernel
theorem d51 : decode yB 51 = .ok (.aload_n 0, 1) := by decide +kernel
theorem d52 : decode yB 52 = .ok (.aload 5, 2) := by decide +kernel
theorem d54 : decode yB 54 = .ok (.putfield 9, 3) := by decide +kernel
theorem d57 : decode yB 57 = .ok (.return_, 1) := by decide +kernel
def site : List Cond := [.fieldLink "java/lang/String" 38 "java/lang/String" "COMPACT_STRINGS" "Z", Cmp3.tab, CodL.tab, .laysFinal "java/lang/String" "java/lang/String" "value" "[B", .fieldLink "java/lang/String" 9 "java/lang/String" "value" "[B", .laysFinal "java/lang/String" "java/lang/String" "coder" "B", .fieldLink "java/lang/String" 15 "java/lang/String" "coder" "B"] ++ objW "java/lang/String" 1 ++ staticW "java/lang/String" 177 Cmp3.yN ++ staticW "java/lang/String" 47 CodL.yN
def tab : Cond := tabOf yN yB 6 none site
def P (a : Addr) (D : Cell) (fV fC : Field) (b : Addr) (A : Cell) (z : Int32) (o len : Nat) (args : Array Value) (s : State) : Prop := args = #[.ref a, .ref b, .int (Int32.ofNat o), .int (Int32.ofNat len), .null] ∧ Blank "java/lang/String" a D s ∧ Found "java/lang/String" "value" "[B" fV s ∧ Found "java/lang/String" "coder" "B" fC s ∧ Ch b A s ∧ StaticIs s "java/lang/String" "COMPACT_STRINGS" "Z" (.int z) ∧ ¬ z = 0 ∧ 0 < len ∧ o + len ≤ A.slots.size ∧ len ≤ 536870912 ∧ ∀ i, i < len → ¬ 255 < cv A (o + i)
def E (a : Addr) (D : Cell) (fV fC : Field) (A : Cell) (o len : Nat) (r : Option Value) (s u : State) : Prop := Got a D fV fC A o len r s u
/-- len > 0, no char of the range above 255: a Latin-1 String of their low bytes -/
theorem law (l : Launch) (a : Addr) (D : Cell) (fV fC : Field) (b : Addr) (A : Cell) (z : Int32) (o len : Nat) : Law l yN 5 4 2 35 yB 6 none site (P a D fV fC b A z o len) (E a D fV fC A o len) [⟨a, fC.slot⟩, ⟨a, fV.slot⟩] 1 len := by
  refine Law.of_walk (plainFor_of_name (by decide +kernel)) (by decide +kernel) (by decide +kernel) (by decide) (fun _ _ h => by rw [h.1]; rfl) (fun _ U U' hal hh h => ⟨h.1, h.2.1.mv hal hh, h.2.2.1.al hal, h.2.2.2.1.al hal, h.2.2.2.2.1.mv hal hh, h.2.2.2.2.2.1.there hal hh, h.2.2.2.2.2.2⟩) (fun r U U' V V' h1 hal h2 h => Got.mv r U U' V V' h1 hal h2 h) ?_
  intro p e s m args below meth c s₁ X0 hexec hbytes hml hret hlk hnm hown hh0 W hP
  obtain ⟨rfl, hB, f1, f2, hA, s1, hz, l0, l1, l2, hp⟩ := hP
  have a31 := hA.1.2.2.2
  have c1 : Steps p.tables e below (s₁.setTop (entryFrame m #[.ref a, .ref b, .int (Int32.ofNat o), .int (Int32.ofNat len), .null] 6)) (s₁.setTop (mkF m 0 #[.val (.ref a), .val (.ref b), .val (.int (Int32.ofNat o)), .val (.int (Int32.ofNat len)), .val .null, .unset] [])) := entry rfl
  have c2 : Steps p.tables e below (s₁.setTop (entryFrame m #[.ref a, .ref b, .int (Int32.ofNat o), .int (Int32.ofNat len), .null] 6)) (s₁.setTop (mkF m 1 #[.val (.ref a), .val (.ref b), .val (.int (Int32.ofNat o)), .val (.int (Int32.ofNat len)), .val .null, .unset] [.ref a])) := c1.trans (by
    refine XS.aloadN X0.here hexec rfl (hb hbytes d0) rfl rfl ?_
    exact Steps.refl _)
  obtain ⟨T3, X3, q3, st3⟩ := X0.oinit hexec hown (wks W (objW "java/lang/String" 1)) (g := (mkF m 1 #[.val (.ref a), .val (.ref b), .val (.int (Int32.ofNat o)), .val (.int (Int32.ofNat len)), .val .null, .unset] [.ref a])) rfl (by rw [hml]; rfl) (rest := []) rfl (hb hbytes d1) (W := 0) (by show 2 * 0 + 0 ≤ _; decide) (Nat.le_of_ble_eq_true rfl) (Nat.le_of_ble_eq_true rfl)
  have hh3 := q3.trans hh0
  have c4 : Steps p.tables e below (s₁.setTop (entryFrame m #[.ref a, .ref b, .int (Int32.ofNat o), .int (Int32.ofNat len), .null] 6)) (T3.setTop (mkF m 27 #[.val (.ref a), .val (.ref b), .val (.int (Int32.ofNat o)), .val (.int (Int32.ofNat len)), .val .null, .unset] [])) := (c2.trans (st3 _ (Steps.refl _))).trans (by
    refine XS.iloadN X3.here hexec rfl (hb hbytes d4) rfl ?_
    refine XS.ifYes X3.here hexec rfl (pc0 := 5) rfl (hb hbytes d5) rfl (i0_ne_t (nz32 (by omega) l0)) (by decide) rfl ?_
    exact Steps.refl _)
  obtain ⟨T5, X5, q5, st5⟩ := X3.sget hexec hown (wk W (.fieldLink "java/lang/String" 38 "java/lang/String" "COMPACT_STRINGS" "Z")) s1 (fun _ _ h => by rw [hh3]; exact h) (g := (mkF m 27 #[.val (.ref a), .val (.ref b), .val (.int (Int32.ofNat o)), .val (.int (Int32.ofNat len)), .val .null, .unset] [])) rfl (hb hbytes d27)
  have hh5 := q5.trans hh3
  have c6 : Steps p.tables e below (s₁.setTop (entryFrame m #[.ref a, .ref b, .int (Int32.ofNat o), .int (Int32.ofNat len), .null] 6)) (T5.setTop (mkF m 30 #[.val (.ref a), .val (.ref b), .val (.int (Int32.ofNat o)), .val (.int (Int32.ofNat len)), .val .null, .unset] [.int z])) := c4.trans (st5 _ (Steps.refl _))
  have c7 : Steps p.tables e below (s₁.setTop (entryFrame m #[.ref a, .ref b, .int (Int32.ofNat o), .int (Int32.ofNat len), .null] 6)) (T5.setTop (mkF m 36 #[.val (.ref a), .val (.ref b), .val (.int (Int32.ofNat o)), .val (.int (Int32.ofNat len)), .val .null, .unset] [.int (Int32.ofNat len), .int (Int32.ofNat o), .ref b])) := c6.trans (by
    refine XS.ifNo X5.here hexec rfl (hb hbytes d30) rfl (i0_eq_f hz) ?_
    refine XS.aloadN X5.here hexec rfl (hb hbytes d33) rfl rfl ?_
    refine XS.iloadN X5.here hexec rfl (hb hbytes d34) rfl ?_
    refine XS.iloadN X5.here hexec rfl (hb hbytes d35) rfl ?_
    exact Steps.refl _)
  obtain ⟨v8, T8, X8, E8, g8⟩ := X5.callS hexec (Cmp3.law l b A o len) hown (wks W (staticW "java/lang/String" 177 Cmp3.yN)) (wk W Cmp3.tab) (W := 0) (Nat.le_of_ble_eq_true rfl) (Nat.le_of_ble_eq_true rfl) (Nat.le_refl _) (by show 0 + len ≤ len; omega) (g := (mkF m 36 #[.val (.ref a), .val (.ref b), .val (.int (Int32.ofNat o)), .val (.int (Int32.ofNat len)), .val .null, .unset] [.int (Int32.ofNat len), .int (Int32.ofNat o), .ref b])) rfl (by rw [hml]; rfl) c7 (argsL := [.ref b, .int (Int32.ofNat o), .int (Int32.ofNat len)]) (rest := []) rfl rfl (by show 2 * 0 + 0 ≤ _; decide) (hb hbytes d36) (⟨rfl, hA.mv X5.warmed.alike hh5, l1, l2, hp⟩)
  obtain ⟨e8, z8⟩ := E8
  obtain ⟨rfl, N, n1, n2, n3, n4, n5, n6⟩ := NewArr.mv _ T5 s _ _ hh5.symm (Vm.Alike.refl _) rfl e8
  rw [hh5] at z8
  have hB1 := hB.keep X8.warmed.alike (n6 _ _ hB.1)
  have hne : s.heap.size ≠ a := (Nat.ne_of_lt (Array.getElem?_eq_some_iff.mp hB.1).1).symm
  have c9 : Steps p.tables e below (s₁.setTop (entryFrame m #[.ref a, .ref b, .int (Int32.ofNat o), .int (Int32.ofNat len), .null] 6)) (T8.setTop (mkF m 39 #[.val (.ref a), .val (.ref b), .val (.int (Int32.ofNat o)), .val (.int (Int32.ofNat len)), .val .null, .unset] [.ref s.heap.size])) := g8
  have c10 : Steps p.tables e below (s₁.setTop (entryFrame m #[.ref a, .ref b, .int (Int32.ofNat o), .int (Int32.ofNat len), .null] 6)) (T8.setTop (mkF m 45 #[.val (.ref a), .val (.ref b), .val (.int (Int32.ofNat o)), .val (.int (Int32.ofNat len)), .val .null, .val (.ref s.heap.size)] [.int (Int32.ofNat N.slots.size), .ref s.heap.size, .ref a])) := by
    have hc : Steps p.tables e below (s₁.setTop (entryFrame m #[.ref a, .ref b, .int (Int32.ofNat o), .int (Int32.ofNat len), .null] 6)) (T8.setTop (mkF m 45 #[.val (.ref a), .val (.ref b), .val (.int (Int32.ofNat o)), .val (.int (Int32.ofNat len)), .val .null, .val (.ref s.heap.size)] [.int (Int32.ofNat len), .ref s.heap.size, .ref a])) := c9.trans (by
      refine XS.astore X8.here hexec rfl (hb hbytes d39) rfl rfl rfl ?_
      refine XS.aloadN X8.here hexec rfl (hb hbytes d41) rfl rfl ?_
      refine XS.aload X8.here hexec rfl (hb hbytes d42) rfl rfl ?_
      refine XS.iloadN X8.here hexec rfl (hb hbytes d44) rfl ?_
      exact Steps.refl _)
    rw [n4]; exact hc
  obtain ⟨v11, T11, X11, E11, g11⟩ := X8.callS hexec (CodL.law l s.heap.size N) hown (wks W (staticW "java/lang/String" 47 CodL.yN)) (wk W CodL.tab) (W := 1) (Nat.le_of_ble_eq_true rfl) (Nat.le_of_ble_eq_true rfl) (Nat.le_refl _) (by show 0 + len + 0 ≤ len; omega) (g := (mkF m 45 #[.val (.ref a), .val (.ref b), .val (.int (Int32.ofNat o)), .val (.int (Int32.ofNat len)), .val .null, .val (.ref s.heap.size)] [.int (Int32.ofNat N.slots.size), .ref s.heap.size, .ref a])) rfl (by rw [hml]; rfl) c10 (argsL := [.ref s.heap.size, .int (Int32.ofNat N.slots.size)]) (rest := [.ref a]) rfl rfl (by show 2 * 0 + (1 + 0) ≤ _; decide) (hb hbytes d45) (⟨rfl, n1⟩)
  obtain ⟨rfl, q11⟩ := E11
  have hB11 := hB1.mv (X8.warmed.alike.symm.trans X11.warmed.alike) q11
  have c12 : Steps p.tables e below (s₁.setTop (entryFrame m #[.ref a, .ref b, .int (Int32.ofNat o), .int (Int32.ofNat len), .null] 6)) (T11.setTop (mkF m 48 #[.val (.ref a), .val (.ref b), .val (.int (Int32.ofNat o)), .val (.int (Int32.ofNat len)), .val .null, .val (.ref s.heap.size)] [.int 0, .ref a])) := g11
  obtain ⟨T13, X13, p13, bl13, sl13, st13⟩ := X11.finit hexec hown (wk W (.fieldLink "java/lang/String" 15 "java/lang/String" "coder" "B")) (Or.inr ⟨_, (wk W (.laysFinal "java/lang/String" "java/lang/String" "coder" "B"))⟩) (Or.inl ⟨rfl, hnm⟩) f2 (Or.inl rfl) hB11 (t := .byte) (by decide +kernel) rfl (g := (mkF m 48 #[.val (.ref a), .val (.ref b), .val (.int (Int32.ofNat o)), .val (.int (Int32.ofNat len)), .val .null, .val (.ref s.heap.size)] [.int 0, .ref a])) rfl (rest := []) rfl (hb hbytes d48)
  have c14 : Steps p.tables e below (s₁.setTop (entryFrame m #[.ref a, .ref b, .int (Int32.ofNat o), .int (Int32.ofNat len), .null] 6)) (T13.setTop (mkF m 54 #[.val (.ref a), .val (.ref b), .val (.int (Int32.ofNat o)), .val (.int (Int32.ofNat len)), .val .null, .val (.ref s.heap.size)] [.ref s.heap.size, .ref a])) := (c12.trans (st13 _ (Steps.refl _))).trans (by
    refine XS.aloadN X13.here hexec rfl (hb hbytes d51) rfl rfl ?_
    refine XS.aload X13.here hexec rfl (hb hbytes d52) rfl rfl ?_
    exact Steps.refl _)
  obtain ⟨T15, X15, p15, bl15, sl15, st15⟩ := X13.finit hexec hown (wk W (.fieldLink "java/lang/String" 9 "java/lang/String" "value" "[B")) (Or.inr ⟨_, (wk W (.laysFinal "java/lang/String" "java/lang/String" "value" "[B"))⟩) (Or.inl ⟨rfl, hnm⟩) f1 (Or.inl rfl) bl13 (t := (.array .byte)) (by decide +kernel) rfl (g := (mkF m 54 #[.val (.ref a), .val (.ref b), .val (.int (Int32.ofNat o)), .val (.int (Int32.ofNat len)), .val .null, .val (.ref s.heap.size)] [.ref s.heap.size, .ref a])) rfl (rest := []) rfl (hb hbytes d54)
  have c16 : Steps p.tables e below (s₁.setTop (entryFrame m #[.ref a, .ref b, .int (Int32.ofNat o), .int (Int32.ofNat len), .null] 6)) (T15.setTop (mkF m 57 #[.val (.ref a), .val (.ref b), .val (.int (Int32.ofNat o)), .val (.int (Int32.ofNat len)), .val .null, .val (.ref s.heap.size)] [])) := c14.trans (st15 _ (Steps.refl _))
  have ap := apart (Or.inr ⟨_, (wk W (.laysFinal "java/lang/String" "java/lang/String" "value" "[B"))⟩) (Or.inr ⟨_, (wk W (.laysFinal "java/lang/String" "java/lang/String" "coder" "B"))⟩) f1 f2 (t₁ := .array .byte) (t₂ := .byte) (by decide +kernel) (by decide +kernel) (by decide)
  have al := X8.warmed.alike.symm.trans X15.warmed.alike
  have n7 : T11.heap[s.heap.size]? = some N := by rw [q11]; exact n1.1
  exact ⟨T15, none, _, _, _, X15, by simp, rfl, by omega, (fun _ => rfl), ⟨rfl, _, N, bl15, ((Same.refl D _).set _ (by simp)).set _ (by simp), sl15, (Cell.slots_setSlot_ne _ ap).trans sl13, n1.keep al (p15.other hne (p13.other hne n7)), n2, by rw [al.findClass]; exact n3, n4, n5, fun y c h1 h2 => p15.other h1 (p13.other h1 (by rw [q11]; exact n6 y c h2)), by rw [p15.2.2, p13.2.2, q11]; exact z8⟩, fun fs hl => c16.trans (X15.returnOut hexec hret (hb hbytes d57) hl)⟩
end New4
namespace New1
def yN : MethodName := ⟨"java/lang/String", "<init>", "([C)V"⟩
abbrev yB : ByteArray := jdk_42_method_3_code
theorem d0 : decode yB 0 = .ok (.aload_n 0, 1) := by decide +kernel
theorem d1 : decode yB 1 = .ok (.aload_n 1, 1) := by decide +kernel
theorem d2 : decode yB 2 = .ok (.iconst 0, 1) := by decide +kernel
theorem d3 : decode yB 3 = .ok (.aload_n 1, 1) := by decide +kernel
theorem d4 : decode yB 4 = .ok (.arraylength, 1) := by decide +kernel
theorem d5 : decode yB 5 = .ok (.aconst_null, 1) := by decide +kernel
theorem d6 : decode yB 6 = .ok (.invokespecial 27, 3) := by decide +kernel
theorem d9 : decode yB 9 = .ok (.return_, 1) := by decide +kernel
def site : List Cond := [New4.tab] ++ initW "java/lang/String" 27 New4.yN
def tab : Cond := tabOf yN yB 2 none site
def P (a : Addr) (D : Cell) (fV fC : Field) (b : Addr) (A : Cell) (z : Int32) (args : Array Value) (s : State) : Prop := args = #[.ref a, .ref b] ∧ Blank "java/lang/String" a D s ∧ Found "java/lang/String" "value" "[B" fV s ∧ Found "java/lang/String" "coder" "B" fC s ∧ Ch b A s ∧ StaticIs s "java/lang/String" "COMPACT_STRINGS" "Z" (.int z) ∧ ¬ z = 0 ∧ 0 < A.slots.size ∧ A.slots.size ≤ 536870912 ∧ ∀ i, i < A.slots.size → ¬ 255 < cv A i
def E (a : Addr) (D : Cell) (fV fC : Field) (A : Cell) (r : Option Value) (s u : State) : Prop := Got a D fV fC A 0 A.slots.size r s u
/-- new String(chars), not empty, no char above 255: a Latin-1 String of their low bytes -/
theorem law (l : Launch) (a : Addr) (D : Cell) (fV fC : Field) (b : Addr) (A : Cell) (z : Int32) : Law l yN 2 1 3 52 yB 2 none site (P a D fV fC b A z) (E a D fV fC A) [⟨a, fC.slot⟩, ⟨a, fV.slot⟩] 1 A.slots.size := by
  refine Law.of_walk (plainFor_of_name (by decide +kernel)) (by decide +kernel) (by decide +kernel) (by decide) (fun _ _ h => by rw [h.1]; rfl) (fun _ U U' hal hh h => ⟨h.1, h.2.1.mv hal hh, h.2.2.1.al hal, h.2.2.2.1.al hal, h.2.2.2.2.1.mv hal hh, h.2.2.2.2.2.1.there hal hh, h.2.2.2.2.2.2⟩) (fun r U U' V V' h1 hal h2 h => Got.mv r U U' V V' h1 hal h2 h) ?_
  intro p e s m args below meth c s₁ X0 hexec hbytes hml hret hlk hnm hown hh0 W hP
  obtain ⟨rfl, hB, f1, f2, hA, s1, hz, l0, l2, hp⟩ := hP
  have c1 : Steps p.tables e below (s₁.setTop (entryFrame m #[.ref a, .ref b] 2)) (s₁.setTop (mkF m 0 #[.val (.ref a), .val (.ref b)] [])) := entry rfl
  have c2 : Steps p.tables e below (s₁.setTop (entryFrame m #[.ref a, .ref b] 2)) (s₁.setTop (mkF m 6 #[.val (.ref a), .val (.ref b)] [.null, .int (Int32.ofNat A.slots.size), .int 0, .ref b, .ref a])) := c1.trans (by
    refine XS.aloadN X0.here hexec rfl (hb hbytes d0) rfl rfl ?_
    refine XS.aloadN X0.here hexec rfl (hb hbytes d1) rfl rfl ?_
    refine iconstV X0.here hexec rfl 0 (hb hbytes d2) (by decide) ?_
    refine XS.aloadN X0.here hexec rfl (hb hbytes d3) rfl rfl ?_
    refine X0.alen hexec (hA.1.mv X0.warmed.alike hh0) rfl rfl (hb hbytes d4) ?_
    refine XS.aconstNull X0.here hexec rfl (hb hbytes d5) ?_
    exact Steps.refl _)
  obtain ⟨v3, T3, X3, E3, g3⟩ := X0.callN hexec (New4.law l a D fV fC b A z 0 A.slots.size) rfl hown (wks W (initW "java/lang/String" 27 New4.yN)) (W New4.tab (by simp only [site, List.mem_cons, List.mem_append, true_or, or_true])) (W := 0) (Nat.le_of_ble_eq_true rfl) (Nat.le_of_ble_eq_true rfl) (Nat.le_refl _) (by show 0 + A.slots.size ≤ A.slots.size; omega) (g := (mkF m 6 #[.val (.ref a), .val (.ref b)] [.null, .int (Int32.ofNat A.slots.size), .int (Int32.ofNat 0), .ref b, .ref a])) rfl (by rw [hml]; rfl) c2 (argsL := [.ref b, .int (Int32.ofNat 0), .int (Int32.ofNat A.slots.size), .null]) (rest := []) rfl rfl (by show 2 * 0 + 0 ≤ _; decide) (hb hbytes d6) (⟨rfl, hB.mv X0.warmed.alike hh0, f1.al X0.warmed.alike, f2.al X0.warmed.alike, hA.mv X0.warmed.alike hh0, s1.there X0.warmed.alike hh0, hz, l0, by omega, l2, fun i hi => by rw [Nat.zero_add]; exact hp i hi⟩)
  have e0 := Got.mv _ s₁ s _ _ hh0.symm (Vm.Alike.refl _) rfl E3
  obtain rfl := e0.1
  have c4 : Steps p.tables e below (s₁.setTop (entryFrame m #[.ref a, .ref b] 2)) (T3.setTop (mkF m 9 #[.val (.ref a), .val (.ref b)] [])) := g3
  exact ⟨T3, none, _, _, _, X3, by simp, rfl, by omega, (fun _ => rfl), e0, fun fs hl => c4.trans (X3.returnOut hexec hret (hb hbytes d9) hl)⟩
theorem pays {l : Launch} {R : Room} {p : Program} {e : Env} {below : List Frame} {s : State} {sargs : Array Value} {len W : Nat} (a : Addr) (D : Cell) (fV fC : Field) (b : Addr) (A : Cell) (z : Int32) (htab : tab.before sargs s = true) (hfr : 4 ≤ R.frames) (hlo : W + 65 ≤ R.locals) :
    Back l R p e below s sargs yN len W (fun A₁ a₁ => A₁.cells + 1 ≤ R.cells ∧ A₁.slots + A.slots.size ≤ R.slots ∧ P a D fV fC b A z a₁ A₁.U) (fun A₁ _ v₁ B₁ => E a D fV fC A v₁ A₁.U B₁.U ∧ B₁.locs = A₁.locs ++ [⟨a, fC.slot⟩, ⟨a, fV.slot⟩] ∧ B₁.cells = A₁.cells + 1 ∧ B₁.slots = A₁.slots + A.slots.size) :=
  (law l a D fV fC b A z).pays htab hfr (by omega)
end New1
/-- the byte, read back as charAt reads it, is the char -/
theorem lo8_mask {x : Int32} (h0 : ¬ x < 0) (h1 : ¬ 255 < x) : lo8 x &&& 255 = x := by
  have t : ∀ k : Fin 256, lo8 (Int32.ofNat k.val) &&& 255 = Int32.ofNat k.val := by decide +kernel
  rw [Int32.lt_iff_toInt_lt] at h0 h1
  have e0 : (0 : Int32).toInt = 0 := rfl
  have e1 : (255 : Int32).toInt = 255 := rfl
  obtain ⟨k, hk⟩ : ∃ k : Nat, x.toInt = k := ⟨x.toInt.toNat, by omega⟩
  have hx : x = Int32.ofNat k := Int32.toInt_inj.mp (by rw [hk, Int32.toInt_ofNat_small (by omega)])
  rw [hx]
  exact t ⟨k, by omega⟩
end StrChars
namespace StrChars.Road
open Jvm Sem ClassFile Op Lib Jvm.Stand Jvm.Free Jvm.Free.XT
open Jvm.Lib.Cold (StaticIs)
abbrev ST : String := "java/lang/String"
/-- every table word that New1's law asks, flat -/
abbrev words : List Jvm.Cond := [.code New1.yN New1.yB 2 none, .initialized ST, .methodLink ST 27 New4.yN, .instanceMethod New4.yN,
  .code New4.yN New4.yB 6 none, .fieldLink ST 38 ST "COMPACT_STRINGS" "Z", .laysFinal ST ST "value" "[B", .fieldLink ST 9 ST "value" "[B", .laysFinal ST ST "coder" "B", .fieldLink ST 15 ST "coder" "B",
  .methodLink ST 1 Lib.objectInit, .instanceMethod Lib.objectInit, .code Lib.objectInit ⟨#[0xb1]⟩ 1 none, .methodLink ST 177 Cmp3.yN, .static Cmp3.yN, .methodLink ST 47 CodL.yN, .static CodL.yN,
  .code Cmp3.yN Cmp3.yB 6 (some (.array .byte)), .initialized U16, .arrayClass .byte, .methodLink U16 115 Cmp5.yN, .static Cmp5.yN, .code Cmp5.yN Cmp5.yB 7 (some .int), .code CodL.yN CodL.yB 2 (some .byte)]
theorem tab_of {a : Array Value} {s : State} (h : ∀ w ∈ words, w.before a s = true) : New1.tab.before a s = true := by
  have h5 : Cmp5.tab.before a s = true := unparts (wk h (.code Cmp5.yN Cmp5.yB 7 (some .int))) (wks h (.initialized Cmp5.yN.cls :: Cmp5.site))
  have hc : CodL.tab.before a s = true := unparts (wk h (.code CodL.yN CodL.yB 2 (some .byte))) (wks h (.initialized CodL.yN.cls :: CodL.site))
  have q5 : ∀ w ∈ Cmp5.tab :: words, w.before a s = true := fun w hw => (List.mem_cons.mp hw).elim (fun e => e ▸ h5) (h w)
  have h3 : Cmp3.tab.before a s = true := unparts (wk q5 (.code Cmp3.yN Cmp3.yB 6 (some (.array .byte)))) (wks q5 (.initialized Cmp3.yN.cls :: Cmp3.site))
  have q3 : ∀ w ∈ Cmp3.tab :: CodL.tab :: words, w.before a s = true := fun w hw => (List.mem_cons.mp hw).elim (fun e => e ▸ h3) fun hw => (List.mem_cons.mp hw).elim (fun e => e ▸ hc) (h w)
  have h4 : New4.tab.before a s = true := unparts (wk q3 (.code New4.yN New4.yB 6 none)) (wks q3 (.initialized New4.yN.cls :: New4.site))
  have q4 : ∀ w ∈ New4.tab :: words, w.before a s = true := fun w hw => (List.mem_cons.mp hw).elim (fun e => e ▸ h4) (h w)
  exact unparts (wk q4 (.code New1.yN New1.yB 2 none)) (wks q4 (.initialized New1.yN.cls :: New1.site))
/-- the words ride from the start Z to the walk's own state -/
theorem moved {Z s : State} {a0 args : Array Value} (hZ : Z.Warmed39 s.vm) (hw : ∀ d ∈ words, d.before a0 Z = true) : ∀ d ∈ words, d.before args s = true := fun d hd => by
  have q := hw d hd
  have t : ∀ d ∈ words, d = .arrayClass .byte ∨ (d.onTables && d.keepsFace) = true := by decide +kernel
  rcases t d hd with rfl | t
  · exact RoadKit.mvA hZ q
  · exact RoadKit.mv hZ q t
/-- WHAT COMES BACK, over the tables of the start Z: h the heap at the call, h' behind it -/
def Q (Z : State) (x : Addr) (A : Cell) (h : Heap) (v : Option Value) (h' : Heap) (L : List Loc) : Prop := v = none ∧ (∀ y ∈ L, y.base = x) ∧ RoadKit.Keep h h' [x] ∧ h'.size = h.size + 1 ∧ RoadKit.Exa Z h' x ST ∧ RoadKit.Fld Z h' x ST "value" "[B" (.ref h.size) ∧ RoadKit.Fld Z h' x ST "coder" "B" (.int 0) ∧
  (∃ V : Cell, RoadKit.Arr Z h' h.size V .byte ∧ V.vm = .none ∧ Z.vm.findClass "[B" = some V.cls ∧ V.slots.size = A.slots.size ∧ ∀ j, j < A.slots.size → V.slots[j]? = some (.int (lo8 (cv A j)))) ∧
  ∀ (O n d : String) (w : Value), RoadKit.Fld Z h x O n d w → RoadKit.slotOf Z O n d ≠ RoadKit.slotOf Z ST "value" "[B" → RoadKit.slotOf Z O n d ≠ RoadKit.slotOf Z ST "coder" "B" → RoadKit.Fld Z h' x O n d w
/-- **new String(chars) AT A CALL, IN THE ROAD'S FORM**: for specialBack behind newO: x the fresh String, b the char[] with the cell A -/
theorem back {p : Program} {l : Launch} {e : Env} {R : Room} {s : State} {args : Array Value} {below : List Frame} {len W : Nat} {Z : State} {a0 : Array Value} {h : Heap} (hZ : Z.Warmed39 s.vm) (hw : ∀ d ∈ words, d.before a0 Z = true) {kI : Nat} (wi : (Jvm.Cond.instantiable ST kI).before a0 Z = true)
    {x b : Addr} {A : Cell} {z : Int32} {v0 c0 : Value} (E : RoadKit.Exa Z h x ST) (V : RoadKit.Fld Z h x ST "value" "[B" v0) (C : RoadKit.Fld Z h x ST "coder" "B" c0) (K : RoadKit.Arr Z h b A .char) (hty : Typed .char A) (S : RoadKit.Sta Z h ST "COMPACT_STRINGS" "Z" (.int z)) (hz : ¬ z = 0)
    (l0 : 0 < A.slots.size) (l2 : A.slots.size ≤ 536870912) (hp : ∀ i, i < A.slots.size → ¬ 255 < cv A i) (hfr : 4 ≤ R.frames) (hlo : W + 65 ≤ R.locals) :
    Back l R p e below s args New1.yN len W (fun P a => a = #[.ref x, .ref b] ∧ P.U.heap = h ∧ P.cells + 1 ≤ R.cells ∧ P.slots + A.slots.size ≤ R.slots)
      (fun P _ v B => ∃ L, Q Z x A h v B.U.heap L ∧ B.locs = P.locs ++ L ∧ B.cells = P.cells + 1 ∧ B.slots = P.slots + A.slots.size) := by
  intro m meth c P g ig mk a X hg hsize hdg hW hn hp'
  obtain ⟨rfl, rfl, r1, r2⟩ := hp'
  have al : Z.vm.Alike P.U.vm := hZ.alike.trans X.warmed.alike
  obtain ⟨D, cfV, kV, iV, fV, hD, gV, stV, knV, obV, asV, slV⟩ := id V
  obtain ⟨D', cfC, kC, iC, fC, hD', gC, stC, -, -, asC, slC⟩ := id C
  cases hD.symm.trans hD'
  obtain ⟨D2, kD, e1, e2, e3, e4, e5⟩ := id E
  cases hD.symm.trans e1
  obtain ⟨c2, k2, i1, i2, i3, -⟩ := Cond.instantiable_spec wi
  cases e2.symm.trans i1
  cases e3.symm.trans i2
  obtain ⟨kU, u1, u2⟩ := al.2.2 _ _ e3
  have hB : Blank ST x D P.U := ⟨hD, ⟨knV, fun q hq => by rw [hq] at obV; cases obV⟩, by rw [al.findClass]; exact e2, kU, u1, by rw [u2]; exact i3, by rw [u2]; exact e5 i3⟩
  have F1 : Found ST "value" "[B" fV P.U := ⟨SBG.found_only al ⟨cfV, kV, iV, gV⟩, stV⟩
  have F2 : Found ST "coder" "B" fC P.U := ⟨SBG.found_only al ⟨cfC, kC, iC, gC⟩, stC⟩
  have hA : Ch b A P.U := ⟨⟨K.1, State.isArrayOf_alike al K.2.1, K.2.2, by omega⟩, hty⟩
  have hS : StaticIs P.U ST "COMPACT_STRINGS" "Z" (.int z) := by
    obtain ⟨cfS, iS, kS, fS, st, cS, t1, t2, t3, t4, t5, t6, t7⟩ := S
    exact StaticIs.there (s := { Z with heap := P.U.heap }) ⟨cfS, iS, kS, fS, st, cS, t1, t2, t3, t4, t5, (fun q => by rw [q] at t6; cases t6), t7⟩ al rfl
  obtain ⟨v, B, X', ⟨⟨hv, E', V', q1, q2, q3, q4, q5, q6, q7, q8, q9, q10, q11⟩, hl, hc, hs⟩, st⟩ := New1.pays x D fV fC b A z (tab_of (moved hZ hw)) hfr hlo m meth c P g ig mk _ X hg hsize hdg hW hn ⟨r1, r2, rfl, hB, F1, F2, hA, hS, hz, l0, l2, hp⟩
  have al' : Z.vm.Alike B.U.vm := hZ.alike.trans X'.warmed.alike
  have hsz : E'.slots.size = D.slots.size := by
    obtain ⟨-, -, -, kB, w1, w2, w3⟩ := q1
    obtain ⟨kB', y1, y2⟩ := al'.2.2 _ _ e3
    rw [q2.2.1] at w1
    cases w1.symm.trans y1
    rw [w3, e5 i3, y2]
  refine ⟨v, B, X', ⟨_, ⟨hv, ?_, ⟨by omega, fun y cy hy hn' => q10 y cy (by simpa using hn') hy, fun y cy hy => ?_⟩, q11, ⟨E', _, q1.1, by rw [q2.2.1]; exact e2, by rw [q2.2.1]; exact e3, by rw [q2.1]; exact obV, fun _ => by rw [hsz]; exact e5 i3⟩,
    ⟨E', cfV, kV, iV, fV, q1.1, gV, stV, by rw [q2.1]; exact knV, by rw [q2.1]; exact obV, by rw [q2.2.1]; exact asV, q3⟩, ⟨E', cfC, kC, iC, fC, q1.1, gC, stC, by rw [q2.1]; exact knV, by rw [q2.1]; exact obV, by rw [q2.2.1]; exact asC, q4⟩,
    ⟨V', ⟨q5.1, State.isArrayOf_alike al'.symm q5.2.1, q5.2.2.1⟩, q6, by rw [← al'.findClass]; exact q7, q8, fun j hj => by have := q9 j hj; rwa [Nat.zero_add] at this⟩, fun O n d w F n1 n2 => ?_⟩, hl, hc, hs⟩, st⟩
  · intro y hy
    simp only [List.mem_cons, List.not_mem_nil, or_false] at hy
    rcases hy with rfl | rfl <;> rfl
  · by_cases q : y = x
    · subst q
      cases hD.symm.trans hy
      exact ⟨E', q1.1, q2.2.1, q2.1, hsz⟩
    · exact ⟨cy, q10 y cy q hy, rfl, rfl, rfl⟩
  · obtain ⟨D3, cf, k, i, f, g1, g2, g3, g4, g5, g6, g7⟩ := F
    cases hD.symm.trans g1
    simp only [RoadKit.slotOf, g2, gV, gC, Option.map_some, Option.getD_some] at n1 n2
    exact ⟨E', cf, k, i, f, q1.1, g2, g3, by rw [q2.1]; exact g4, by rw [q2.1]; exact g5, by rw [q2.2.1]; exact g6, by rw [q2.2.2 f.slot (by simp [n1, n2])]; exact g7⟩
end StrChars.Road
namespace StrChars.Road
open Jvm Sem ClassFile Op Lib Jvm.Stand Jvm.Free Jvm.Free.XT
/-- WHAT COMES BACK, the byte[] as a list of values -/
def QA (Z : State) (x : Addr) (zn : Int32) (cs : List Int32) (h : Heap) (v : Option Value) (h' : Heap) (L : List Loc) : Prop := v = none ∧ (∀ y ∈ L, y.base = x) ∧ RoadKit.Keep h h' [x] ∧ h'.size = h.size + 1 ∧ RoadKit.Exa Z h' x ST ∧ RoadKit.Fld Z h' x ST "value" "[B" (.ref h.size) ∧ RoadKit.Fld Z h' x ST "coder" "B" (.int 0) ∧
  (∃ kb, Z.vm.findClass "[B" = some kb ∧ RoadKit.Arv Z h' h.size kb .byte zn (cs.map fun c => .int (lo8 c)) (.int 0)) ∧
  ∀ (O n d : String) (w : Value), RoadKit.Fld Z h x O n d w → RoadKit.slotOf Z O n d ≠ RoadKit.slotOf Z ST "value" "[B" → RoadKit.slotOf Z O n d ≠ RoadKit.slotOf Z ST "coder" "B" → RoadKit.Fld Z h' x O n d w
/-- **new String(chars) AT A CALL, THE ARRAYS AS LISTS**: the char[] at b holds cs, not empty, no char above 255 -/
theorem backArv {p : Program} {l : Launch} {e : Env} {R : Room} {s : State} {args : Array Value} {below : List Frame} {len W : Nat} {Z : State} {a0 : Array Value} {h : Heap} (hZ : Z.Warmed39 s.vm) (hw : ∀ d ∈ words, d.before a0 Z = true) {kI : Nat} (wi : (Jvm.Cond.instantiable ST kI).before a0 Z = true)
    {x b : Addr} {k : ClassId} {zn z : Int32} {cs : List Int32} {dv v0 c0 : Value} (E : RoadKit.Exa Z h x ST) (V : RoadKit.Fld Z h x ST "value" "[B" v0) (C : RoadKit.Fld Z h x ST "coder" "B" c0) (K : RoadKit.Arv Z h b k .char zn (cs.map Value.int) dv) (S : RoadKit.Sta Z h ST "COMPACT_STRINGS" "Z" (.int z)) (hz : ¬ z = 0)
    (hlen : zn.toNatClampNeg = cs.length) (h0 : 0 < cs.length) (hbig : cs.length ≤ 536870912) (hall : ∀ c ∈ cs, ¬ 255 < c) (hfr : 4 ≤ R.frames) (hlo : W + 65 ≤ R.locals) :
    Back l R p e below s args New1.yN len W (fun P a => a = #[.ref x, .ref b] ∧ P.U.heap = h ∧ P.cells + 1 ≤ R.cells ∧ P.slots + cs.length ≤ R.slots)
      (fun P _ v B => ∃ L, QA Z x zn cs h v B.U.heap L ∧ B.locs = P.locs ++ L ∧ B.cells = P.cells + 1 ∧ B.slots = P.slots + cs.length) := by
  obtain ⟨A, K1, K2, K3, K4, K5, K6⟩ := K
  have e : A.slots.size = cs.length := K3.trans hlen
  have hat : ∀ (i : Nat) (hi : i < cs.length), A.slots[i]? = some (.int cs[i]) := fun i hi => by rw [K5 i (by omega)]; simp [List.getD_eq_getElem?_getD, hi]
  have hcv : ∀ (i : Nat) (hi : i < cs.length), cv A i = cs[i] := fun i hi => by unfold cv; rw [hat i hi]
  have hty : Typed .char A := fun i v hv => by
    have hi : i < A.slots.size := (Array.getElem?_eq_some_iff.mp hv).1
    have q := K5 i hi
    rw [hv] at q
    rw [Option.some.inj q]
    exact K6 i hi
  refine Back.mono (back hZ hw wi E V C K1 hty S hz (by omega) (by omega) (fun i hi => by rw [hcv i (by omega)]; exact hall _ (List.getElem_mem _)) hfr hlo) (fun P a hp => ⟨hp.1, hp.2.1, hp.2.2.1, by rw [e]; exact hp.2.2.2⟩) (fun P a v B hp hq => ?_)
  obtain ⟨L, ⟨q1, q2, q3, q4, q5, q6, q7, ⟨V', v1, v2, v3, v4, v5⟩, q9⟩, hl, hc, hs⟩ := hq
  refine ⟨L, ⟨q1, q2, q3, q4, q5, q6, q7, ⟨V'.cls, v3, V', v1, rfl, by rw [v4, e, hlen], K4, fun i hi => ?_, fun i hi => ?_⟩, q9⟩, hl, hc, by rw [hs, e]⟩
  · have hi' : i < cs.length := by omega
    rw [v5 i (by omega), hcv i hi']; simp [List.getD_eq_getElem?_getD, hi']
  · have hi' : i < cs.length := by omega
    simp only [List.getD_eq_getElem?_getD, List.getElem?_map, List.getElem?_eq_getElem hi', Option.map_some, Option.getD_some]
    exact fits_lo8 _
end StrChars.Road
namespace StrChars.Road
open Jvm Sem ClassFile Op Lib Jvm.Stand Jvm.Free Jvm.Free.XT
/-- WHAT COMES BACK, in the writer's own shape -/
def QV (Z : State) (x : Addr) (N : Int32) (bs : List Int32) (h : Heap) (n0 : Nat) (v : Option Value) (h' : Heap) (L : List Loc) : Prop := v = none ∧ RoadKit.Fr n0 L ∧ RoadKit.Keep h h' [x] ∧ RoadKit.Exa Z h' x ST ∧ RoadKit.Fld Z h' x ST "coder" "B" (.int 0) ∧
  ∃ (t : Addr) (kb : ClassId), n0 ≤ t ∧ h.size ≤ t ∧ ¬ t = x ∧ RoadKit.Fld Z h' x ST "value" "[B" (.ref t) ∧ RoadKit.Arv Z h' t kb .byte N (bs.map Value.int) (.int 0)
/-- **new String(chars) AT A CALL, FOR THE WRITER**: a char[] of n known ints, each 0 to 255 -/
theorem backV {p : Program} {l : Launch} {e : Env} {R : Room} {s : State} {args : Array Value} {below : List Frame} {len W : Nat} {Z : State} {a0 : Array Value} {h : Heap} (hZ : Z.Warmed39 s.vm) (hw : ∀ d ∈ words, d.before a0 Z = true) {kI : Nat} (wi : (Jvm.Cond.instantiable ST kI).before a0 Z = true)
    {x b : Addr} {kC : ClassId} {cs bs : List Int32} {d v0 c0 : Value} {z N : Int32} {n n0 : Nat} (hx0 : n0 ≤ x) (hh0 : n0 ≤ h.size) (E : RoadKit.Exa Z h x ST) (V : RoadKit.Fld Z h x ST "value" "[B" v0) (C : RoadKit.Fld Z h x ST "coder" "B" c0) (K : RoadKit.Arv Z h b kC .char N (cs.map Value.int) d) (S : RoadKit.Sta Z h ST "COMPACT_STRINGS" "Z" (.int z)) (hz : ¬ z = 0)
    (hn : cs.length = n) (hN : N = Int32.ofNat n) (l0 : 0 < n) (l2 : n ≤ 4000) (hp : ∀ c ∈ cs, ¬ c < 0 ∧ ¬ (255 : Int32) < c) (hb : bs = cs.map (fun c => c.toInt8.toInt32)) (hfr : 4 ≤ R.frames) (hlo : W + 65 ≤ R.locals) :
    Back l R p e below s args (⟨"java/lang/String", "<init>", "([C)V"⟩ : MethodName) len W (fun P a => a = #[.ref x, .ref b] ∧ P.U.heap = h ∧ P.cells + 1 ≤ R.cells ∧ P.slots + n ≤ R.slots)
      (fun P _ v B => ∃ L, QV Z x N bs h n0 v B.U.heap L ∧ B.locs = P.locs ++ L ∧ B.cells = P.cells + 1 ∧ B.slots = P.slots + n) := by
  subst hn hN hb
  refine Back.mono (backArv hZ hw wi E V C K S hz (n32 (by omega)) l0 (by omega) (fun c hc => (hp c hc).2) hfr hlo) (fun P a hp => hp) (fun P a v B hp hq => ?_)
  obtain ⟨L, ⟨q1, q2, q3, q4, q5, q6, q7, ⟨kb, v1, v2⟩, q9⟩, hl, hc, hs⟩ := hq
  exact ⟨L, ⟨q1, fun y hy => by rw [q2 y hy]; exact hx0, q3, q5, q7, h.size, kb, hh0, Nat.le_refl _, Nat.ne_of_gt E.lt, q6, by rw [List.map_map]; exact v2⟩, hl, hc, hs⟩
end StrChars.Road
namespace StrChars
open Jvm Sem ClassFile Op Lib Jvm.Stand Jvm.Free.XT Jvm.Free.ALB Jvm.Free.JM Jvm.Free
open Jvm.Lib.Cold (StaticIs)
def hi8 (x : Int32) : Int32 := lo8 (x >>> ((8 : Int32) &&& 31))
/-- what StringUTF16.getChar makes of two bytes -/
def pairCh (u v : Int32) : Int32 := (((u &&& 255) <<< ((0 : Int32) &&& 31)) ||| ((v &&& 255) <<< ((8 : Int32) &&& 31))).toUInt32.toUInt16.toUInt32.toInt32
theorem lo8_and (x : Int32) : (lo8 x &&& 255).toBitVec.toNat = x.toBitVec.toNat % 256 := by
  have h : (lo8 x).toBitVec = (x.toBitVec.signExtend 8).signExtend 32 := by rw [lo8, Int8.toBitVec_toInt32, Int32.toBitVec_toInt8]
  rw [Int32.toBitVec_and, BitVec.toNat_and, h]
  have e : ((x.toBitVec.signExtend 8).signExtend 32).toNat % 256 = x.toBitVec.toNat % 256 := by
    rw [BitVec.toNat_signExtend]
    have hlt := x.toBitVec.isLt
    simp only [BitVec.toNat_setWidth, BitVec.toNat_signExtend]
    split <;> split <;> omega
  rw [← e]
  exact Nat.and_two_pow_sub_one_eq_mod _ 8
theorem pair_says {c : Int32} (h0 : ¬ c < 0) (h1 : ¬ 65535 < c) : pairCh (lo8 c) (hi8 c) = c := by
  rw [Int32.lt_iff_toInt_lt] at h0 h1
  have e0 : (0 : Int32).toInt = 0 := rfl
  have e1 : (65535 : Int32).toInt = 65535 := rfl
  have hc : c.toInt = c.toBitVec.toNat := by
    have := c.toBitVec.isLt
    have e : c.toInt = c.toBitVec.toInt := rfl
    rw [e] at h0 h1
    rw [e]
    rw [BitVec.toInt_eq_toNat_cond] at h0 h1 ⊢
    split at h0 <;> split <;> omega
  have hn : c.toBitVec.toNat < 65536 := by omega
  have a1 := lo8_and c
  have a2 : (hi8 c &&& 255).toBitVec.toNat = c.toBitVec.toNat / 256 := by
    rw [hi8, lo8_and]
    have e : ((8 : Int32) &&& 31) = 8 := by decide
    rw [e, Int32.toBitVec_shiftRight]
    have e2 : ((8 : Int32).toBitVec.smod 32) = 8#32 := by decide
    rw [e2, BitVec.sshiftRight_eq', BitVec.toNat_sshiftRight_of_msb_false (by rw [BitVec.msb_eq_false_iff_two_mul_lt]; omega)]
    show c.toBitVec.toNat >>> 8 % 256 = _
    rw [Nat.shiftRight_eq_div_pow]
    omega
  unfold pairCh
  apply Int32.toBitVec_inj.mp
  apply BitVec.eq_of_toNat_eq
  have f0 : ((0 : Int32) &&& 31) = 0 := by decide
  have f8 : ((8 : Int32) &&& 31) = 8 := by decide
  rw [f0, f8]
  have g : (((lo8 c &&& 255) <<< (0 : Int32)) ||| ((hi8 c &&& 255) <<< (8 : Int32))).toBitVec.toNat = c.toBitVec.toNat := by
    rw [Int32.toBitVec_or, Int32.toBitVec_shiftLeft, Int32.toBitVec_shiftLeft]
    have s0 : ((0 : Int32).toBitVec.smod 32) = 0#32 := by decide
    have s8 : ((8 : Int32).toBitVec.smod 32) = 8#32 := by decide
    rw [s0, s8, BitVec.toNat_or]
    simp only [BitVec.shiftLeft_eq', BitVec.toNat_shiftLeft, a1, a2]
    show (c.toBitVec.toNat % 256) <<< 0 % 2 ^ 32 ||| (c.toBitVec.toNat / 256) <<< 8 % 2 ^ 32 = _
    rw [Nat.shiftLeft_zero, Nat.mod_eq_of_lt (show c.toBitVec.toNat % 256 < 2 ^ 32 by omega), Nat.mod_eq_of_lt (show (c.toBitVec.toNat / 256) <<< 8 < 2 ^ 32 by rw [Nat.shiftLeft_eq]; omega), Nat.or_comm, ← Nat.shiftLeft_add_eq_or_of_lt (by omega), Nat.shiftLeft_eq]
    omega
  show BitVec.toNat (((((lo8 c &&& 255) <<< (0 : Int32)) ||| ((hi8 c &&& 255) <<< (8 : Int32))).toBitVec.setWidth 16).setWidth 32) = _
  rw [BitVec.toNat_setWidth, BitVec.toNat_setWidth, g]
  omega
end StrChars
namespace StrChars
open Jvm Sem ClassFile Op Lib Jvm.Stand Jvm.Free.XT Jvm.Free.ALB Jvm.Free.JM Jvm.Free
open Jvm.Lib.Cold (StaticIs)
/-- the array's cell V codes the n chars f 0 .. f (n - 1) by the coder cd, as the JDK does: coder 1 just where some char is above 255 -/
def Cod (cd : Int32) (n : Nat) (f : Nat → Int32) (V : Cell) : Prop := (cd = 0 ∧ V.slots.size = n ∧ ∀ j, j < n → V.slots[j]? = some (.int (lo8 (f j))) ∧ ¬ 255 < f j) ∨ (cd = 1 ∧ V.slots.size = 2 * n ∧ (∀ j, j < n → V.slots[2 * j]? = some (.int (lo8 (f j))) ∧ V.slots[2 * j + 1]? = some (.int (hi8 (f j)))) ∧ ∃ j, j < n ∧ 255 < f j)
/-- **x is a String of the n chars f 0 .. f (n - 1)**, Latin-1 or UTF-16; its array at t has the cell V -/
def Txt (x t : Addr) (V : Cell) (cd : Int32) (n : Nat) (f : Nat → Int32) (U : State) : Prop := Exact "java/lang/String" x U ∧ Has x "java/lang/String" "value" "[B" (.ref t) U ∧ Has x "java/lang/String" "coder" "B" (.int cd) U ∧ XT.Arr .byte t V U ∧ Cod cd n f V ∧ ∀ j, j < n → ¬ f j < 0 ∧ ¬ 65535 < f j
theorem Txt.mv {x t : Addr} {V : Cell} {cd : Int32} {n : Nat} {f : Nat → Int32} {U U' : State} (h : Txt x t V cd n f U) (hal : U.vm.Alike U'.vm) (hh : U'.heap = U.heap) : Txt x t V cd n f U' := ⟨h.1.mv hal hh, h.2.1.mv hal hh, h.2.2.1.mv hal hh, h.2.2.2.1.mv hal hh, h.2.2.2.2⟩
end StrChars
namespace StrChars.Road
open Jvm Sem ClassFile Op Lib Jvm.Stand Jvm.Free Jvm.Free.XT
open Jvm.Lib.Cold (StaticIs)
theorem consq {a : Array Value} {s : State} {c : Jvm.Cond} {L : List Jvm.Cond} (h0 : c.before a s = true) (h : ∀ w ∈ L, w.before a s = true) : ∀ w ∈ c :: L, w.before a s = true := fun w hw => (List.mem_cons.mp hw).elim (fun e => e ▸ h0) (h w)
/-- the bytes of the chars cs, low before high -/
def wideBytes : List Int32 → List Value
  | [] => []
  | c :: cs => .int (lo8 c) :: .int (hi8 c) :: wideBytes cs
theorem wide_lo (d : Value) : ∀ (cs : List Int32) (j : Nat), j < cs.length → (wideBytes cs).getD (2 * j) d = .int (lo8 (cs.getD j 0))
  | [], j, h => absurd h (Nat.not_lt_zero j)
  | c :: cs, 0, _ => rfl
  | c :: cs, j + 1, h => by
    have q := wide_lo d cs j (by simpa using h)
    rw [show 2 * (j + 1) = 2 * j + 1 + 1 from by omega]
    simpa [wideBytes] using q
theorem wide_hi (d : Value) : ∀ (cs : List Int32) (j : Nat), j < cs.length → (wideBytes cs).getD (2 * j + 1) d = .int (hi8 (cs.getD j 0))
  | [], j, h => absurd h (Nat.not_lt_zero j)
  | c :: cs, 0, _ => rfl
  | c :: cs, j + 1, h => by
    have q := wide_hi d cs j (by simpa using h)
    rw [show 2 * (j + 1) + 1 = 2 * j + 1 + 1 + 1 from by omega]
    simpa [wideBytes] using q
theorem low_at (d : Value) (cs : List Int32) (j : Nat) (h : j < cs.length) : (cs.map fun c => Value.int (lo8 c)).getD j d = .int (lo8 (cs.getD j 0)) := by
  simp [List.getD_eq_getElem?_getD, h]
/-- an array of N2 bytes vs codes the chars cs by the coder cd -/
def CodA (cs : List Int32) (cd N2 : Int32) (vs : List Value) : Prop := (cd = 0 ∧ N2 = Int32.ofNat cs.length ∧ vs = (cs.map fun c => Value.int (lo8 c)) ∧ ∀ c ∈ cs, ¬ 255 < c) ∨ (cd = 1 ∧ N2 = Int32.ofNat (2 * cs.length) ∧ vs = wideBytes cs ∧ ∃ c ∈ cs, 255 < c)
theorem CodA.cod {cs : List Int32} {cd N2 : Int32} {vs : List Value} {V : Cell} (h : CodA cs cd N2 vs) (hn : 2 * cs.length < 2 ^ 31) (hs : V.slots.size = N2.toNatClampNeg) (hv : RoadKit.Has V vs (.int 0)) : Cod cd cs.length (fun j => cs.getD j 0) V := by
  rcases h with ⟨rfl, rfl, rfl, h⟩ | ⟨rfl, rfl, rfl, c, hc, hw⟩
  · rw [n32 (by omega)] at hs
    exact Or.inl ⟨rfl, hs, fun j hj => ⟨by rw [hv j (by omega), low_at _ _ _ hj], by
      have e : cs.getD j 0 = cs[j] := by simp [List.getD_eq_getElem?_getD, hj]
      show ¬ 255 < cs.getD j 0
      rw [e]; exact h _ (List.getElem_mem _)⟩⟩
  · rw [n32 (by omega)] at hs
    obtain ⟨j, hj, rfl⟩ := List.getElem_of_mem hc
    exact Or.inr ⟨rfl, hs, fun j hj => ⟨by rw [hv _ (by omega), wide_lo _ _ _ hj], by rw [hv _ (by omega), wide_hi _ _ _ hj]⟩, j, hj, by
      have e : cs.getD j 0 = cs[j] := by simp [List.getD_eq_getElem?_getD, hj]
      show 255 < cs.getD j 0
      rw [e]; exact hw⟩
/-- an object of exactly java/lang/String, its two fields found: as the laws ask it -/
theorem strObj {Z U : State} {a0 : Array Value} {kI : Nat} (wi : (Jvm.Cond.instantiable ST kI).before a0 Z = true) (al : Z.vm.Alike U.vm) {x : Addr} {v0 c0 : Value} (E : RoadKit.Exa Z U.heap x ST) (V : RoadKit.Fld Z U.heap x ST "value" "[B" v0) (C : RoadKit.Fld Z U.heap x ST "coder" "B" c0) :
    ∃ (D : Cell) (fV fC : Field), Blank ST x D U ∧ Found ST "value" "[B" fV U ∧ Found ST "coder" "B" fC U ∧ D.slots[fV.slot]? = some v0 ∧ D.slots[fC.slot]? = some c0 ∧ RoadKit.slotOf Z ST "value" "[B" = fV.slot ∧ RoadKit.slotOf Z ST "coder" "B" = fC.slot := by
  obtain ⟨D, cfV, kV, iV, fV, hD, gV, stV, knV, obV, asV, slV⟩ := V
  obtain ⟨D', cfC, kC, iC, fC, hD', gC, stC, -, -, asC, slC⟩ := C
  cases hD.symm.trans hD'
  obtain ⟨D2, kD, e1, e2, e3, e4, e5⟩ := E
  cases hD.symm.trans e1
  obtain ⟨c2, k2, i1, i2, i3, -⟩ := Cond.instantiable_spec wi
  cases e2.symm.trans i1
  cases e3.symm.trans i2
  obtain ⟨kU, u1, u2⟩ := al.2.2 _ _ e3
  exact ⟨D, fV, fC, ⟨hD, ⟨knV, fun q hq => by rw [hq] at obV; cases obV⟩, by rw [al.findClass]; exact e2, kU, u1, by rw [u2]; exact i3, by rw [u2]; exact e5 i3⟩, ⟨SBG.found_only al ⟨cfV, kV, iV, gV⟩, stV⟩, ⟨SBG.found_only al ⟨cfC, kC, iC, gC⟩, stC⟩, slV, slC, by simp [RoadKit.slotOf, gV], by simp [RoadKit.slotOf, gC]⟩
theorem sta_is {Z U : State} (al : Z.vm.Alike U.vm) {C n d : String} {v : Value} (S : RoadKit.Sta Z U.heap C n d v) : StaticIs U C n d v := by
  obtain ⟨cfS, iS, kS, fS, st, cS, t1, t2, t3, t4, t5, t6, t7⟩ := S
  exact StaticIs.there (s := { Z with heap := U.heap }) ⟨cfS, iS, kS, fS, st, cS, t1, t2, t3, t4, t5, (fun q => by rw [q] at t6; cases t6), t7⟩ al rfl
end StrChars.Road
namespace StrChars
open Jvm Sem ClassFile Op Lib Jvm.Stand Jvm.Free.XT Jvm.Free.ALB Jvm.Free.JM Jvm.Free
open Jvm.Lib.Cold (StaticIs)
/-- what place i of a byte[]'s cell holds -/
def yv (A : Cell) (i : Nat) : Int32 := match A.slots[i]? with | some (.int x) => x | _ => 0
theorem yv_get {a : Addr} {A : Cell} {U : State} (h : XT.Arr .byte a A U) (ht : Typed .byte A) {i : Nat} (hi : i < A.slots.size) : A.slots[i]? = some (.int (yv A i)) := by
  have e := Array.getElem?_eq_getElem hi
  have f := ht i _ e
  unfold yv; rw [e]
  generalize A.slots[i] = v at f
  cases v <;> simp [fits] at f ⊢
/-- the two arrays are equal, place for place -/
def EqC (A B : Cell) : Prop := A.slots.size = B.slots.size ∧ ∀ i, i < A.slots.size → yv A i = yv B i
/-- a boolean that says whether p -/
def Says01 (q : Prop) (r : Option Value) (s u : State) : Prop := ∃ v : Int32, r = some (.int v) ∧ u.heap = s.heap ∧ ((v = 1 ∧ q) ∨ (v = 0 ∧ ¬ q))
theorem Says01.mv {q : Prop} : ∀ r (U U' V V' : State), U'.heap = U.heap → V.vm.Alike V'.vm → V'.heap = V.heap → Says01 q r U V → Says01 q r U' V' :=
  fun r U U' V V' h1 _ h2 ⟨v, a, b, c⟩ => ⟨v, a, by rw [h1, h2]; exact b, c⟩
namespace LEq
def yN : MethodName := ⟨"java/lang/StringLatin1", "equals", "([B[B)Z"⟩
abbrev yB : ByteArray := jdk_43_method_13_code
theorem d0 : decode yB 0 = .ok (.aload_n 0, 1) := by decide +kernel
theorem d1 : decode yB 1 = .ok (.arraylength, 1) := by decide +kernel
theorem d2 : decode yB 2 = .ok (.aload_n 1, 1) := by decide +kernel
theorem d3 : decode yB 3 = .ok (.arraylength, 1) := by decide +kernel
theorem d4 : decode yB 4 = .ok (.if_icmp (.ne) 30, 3) := by decide +kernel
theorem d7 : decode yB 7 = .ok (.iconst 0, 1) := by decide +kernel
theorem d8 : decode yB 8 = .ok (.istore_n 2, 1) := by decide +kernel
theorem d9 : decode yB 9 = .ok (.iload_n 2, 1) := by decide +kernel
theorem d10 : decode yB 10 = .ok (.aload_n 0, 1) := by decide +kernel
theorem d11 : decode yB 11 = .ok (.arraylength, 1) := by decide +kernel
theorem d12 : decode yB 12 = .ok (.if_icmp (.ge) 20, 3) := by decide +kernel
theorem d15 : decode yB 15 = .ok (.aload_n 0, 1) := by decide +kernel
theorem d16 : decode yB 16 = .ok (.iload_n 2, 1) := by decide +kernel
theorem d17 : decode yB 17 = .ok (.baload, 1) := by decide +kernel
theorem d18 : decode yB 18 = .ok (.aload_n 1, 1) := by decide +kernel
theorem d19 : decode yB 19 = .ok (.iload_n 2, 1) := by decide +kernel
theorem d20 : decode yB 20 = .ok (.baload, 1) := by decide +kernel
theorem d21 : decode yB 21 = .ok (.if_icmp (.eq) 5, 3) := by decide +kernel
theorem d24 : decode yB 24 = .ok (.iconst 0, 1) := by decide +kernel
theorem d25 : decode yB 25 = .ok (.ireturn, 1) := by decide +kernel
theorem d26 : decode yB 26 = .ok (.iinc 2 1, 3) := by decide +kernel
theorem d29 : decode yB 29 = .ok (.goto (-20), 3) := by decide +kernel
theorem d32 : decode yB 32 = .ok (.iconst 1, 1) := by decide +kernel
theorem d33 : decode yB 33 = .ok (.ireturn, 1) := by decide +kernel
theorem d34 : decode yB 34 = .ok (.iconst 0, 1) := by decide +kernel
theorem d35 : decode yB 35 = .ok (.ireturn, 1) := by decide +kernel
def site : List Cond := []
def tab : Cond := tabOf yN yB 3 (some .boolean) site
def P (a : Addr) (A : Cell) (b : Addr) (B : Cell) (args : Array Value) (s : State) : Prop := args = #[.ref a, .ref b] ∧ XT.Arr .byte a A s ∧ Typed .byte A ∧ XT.Arr .byte b B s ∧ Typed .byte B
/-- whether two byte[] are equal, place for place -/
theorem law (l : Launch) (a : Addr) (A : Cell) (b : Addr) (B : Cell) : Law l yN 2 2 0 0 yB 3 (some .boolean) site (P a A b B) (Says01 (EqC A B)) [] 0 0 := by
  refine Law.of_walk (plainFor_of_name (by decide +kernel)) (by decide +kernel) (by decide +kernel) (by decide) (fun _ _ h => by rw [h.1]; rfl) (fun _ U U' hal hh h => ⟨h.1, h.2.1.mv hal hh, h.2.2.1, h.2.2.2.1.mv hal hh, h.2.2.2.2⟩) (fun r U U' V V' h1 hal h2 h => Says01.mv r U U' V V' h1 hal h2 h) ?_
  intro p e s m args below meth c s₁ X0 hexec hbytes hml hret hlk hnm hown hh0 W hP
  obtain ⟨rfl, hA, tA, hB, tB⟩ := hP
  have a31 := hA.2.2.2
  have b31 := hB.2.2.2
  have hA0 := hA.mv X0.warmed.alike hh0
  have hB0 := hB.mv X0.warmed.alike hh0
  have c1 : Steps p.tables e below (s₁.setTop (entryFrame m #[.ref a, .ref b] 3)) (s₁.setTop (mkF m 0 #[.val (.ref a), .val (.ref b), .unset] [])) := entry rfl
  have c2 : Steps p.tables e below (s₁.setTop (entryFrame m #[.ref a, .ref b] 3)) (s₁.setTop (mkF m 4 #[.val (.ref a), .val (.ref b), .unset] [.int (Int32.ofNat B.slots.size), .int (Int32.ofNat A.slots.size)])) := c1.trans (by
    refine XS.aloadN X0.here hexec rfl (hb hbytes d0) rfl rfl ?_
    refine X0.alen hexec hA0 rfl rfl (hb hbytes d1) ?_
    refine XS.aloadN X0.here hexec rfl (hb hbytes d2) rfl rfl ?_
    refine X0.alen hexec hB0 rfl rfl (hb hbytes d3) ?_
    exact Steps.refl _)
  by_cases hs : A.slots.size = B.slots.size
  · have c3 : Steps p.tables e below (s₁.setTop (entryFrame m #[.ref a, .ref b] 3)) (s₁.setTop (mkF m 9 #[.val (.ref a), .val (.ref b), .val (.int 0)] [])) := c2.trans (by
      refine XS.icmpNo X0.here hexec rfl (hb hbytes d4) rfl (ii_ne_f (by rw [hs])) ?_
      refine iconstV X0.here hexec rfl 0 (hb hbytes d7) (by decide) ?_
      refine XS.istoreN X0.here hexec rfl (hb hbytes d8) rfl rfl ?_
      exact Steps.refl _)
    have loop : ∀ (r i : Nat), i + r = A.slots.size → (∀ j, j < i → yv A j = yv B j) → Steps p.tables e below (s₁.setTop (entryFrame m #[.ref a, .ref b] 3)) (s₁.setTop (mkF m 9 #[.val (.ref a), .val (.ref b), .val (.int (Int32.ofNat i))] [])) → ∃ (pc : Nat) (Ls : Array Slot) (v : Int32), (pc = 25 ∨ pc = 33) ∧ ((v = 1 ∧ EqC A B) ∨ (v = 0 ∧ ¬ EqC A B)) ∧ Steps p.tables e below (s₁.setTop (entryFrame m #[.ref a, .ref b] 3)) (s₁.setTop (mkF m pc Ls [.int v])) := by
      intro r
      induction r with
      | zero =>
        intro i hi he cl
        exact ⟨33, _, 1, Or.inr rfl, Or.inl ⟨rfl, hs, fun j hj => he j (by omega)⟩, cl.trans (by
          refine XS.iloadN X0.here hexec rfl (hb hbytes d9) rfl ?_
          refine XS.aloadN X0.here hexec rfl (hb hbytes d10) rfl rfl ?_
          refine X0.alen hexec hA0 rfl rfl (hb hbytes d11) ?_
          refine XS.icmpYes X0.here hexec rfl (pc0 := 12) rfl (hb hbytes d12) rfl (ii_ge_t (nlt32 (by omega) (by omega))) (by decide) rfl ?_
          refine iconstV X0.here hexec rfl 1 (hb hbytes d32) (by decide) ?_
          exact Steps.refl _)⟩
      | succ r ih =>
        intro i hi he cl
        have c4 : Steps p.tables e below (s₁.setTop (entryFrame m #[.ref a, .ref b] 3)) (s₁.setTop (mkF m 21 #[.val (.ref a), .val (.ref b), .val (.int (Int32.ofNat i))] [.int (yv B i), .int (yv A i)])) := cl.trans (by
          refine XS.iloadN X0.here hexec rfl (hb hbytes d9) rfl ?_
          refine XS.aloadN X0.here hexec rfl (hb hbytes d10) rfl rfl ?_
          refine X0.alen hexec hA0 rfl rfl (hb hbytes d11) ?_
          refine XS.icmpNo X0.here hexec rfl (hb hbytes d12) rfl (ii_ge_f (lt32 (by omega) (by omega))) ?_
          refine XS.aloadN X0.here hexec rfl (hb hbytes d15) rfl rfl ?_
          refine XS.iloadN X0.here hexec rfl (hb hbytes d16) rfl ?_
          refine X0.aget hexec hA0 rfl (yv_get hA tA (i := i) (by omega)) rfl rfl (hb hbytes d17) ?_
          refine XS.aloadN X0.here hexec rfl (hb hbytes d18) rfl rfl ?_
          refine XS.iloadN X0.here hexec rfl (hb hbytes d19) rfl ?_
          refine X0.aget hexec hB0 rfl (yv_get hB tB (i := i) (by omega)) rfl rfl (hb hbytes d20) ?_
          exact Steps.refl _)
        by_cases hv : yv A i = yv B i
        · have c5 : Steps p.tables e below (s₁.setTop (entryFrame m #[.ref a, .ref b] 3)) (s₁.setTop (mkF m 9 #[.val (.ref a), .val (.ref b), .val (.int (Int32.ofNat i + 1))] [])) := c4.trans (by
            refine XS.icmpYes X0.here hexec rfl (pc0 := 21) rfl (hb hbytes d21) rfl (ii_eq_t hv) (by decide) rfl ?_
            refine iincV X0.here hexec rfl 1 (hb hbytes d26) (by decide) rfl rfl ?_
            refine XS.goto X0.here hexec rfl (pc0 := 29) rfl (hb hbytes d29) (by decide) rfl ?_
            exact Steps.refl _)
          rw [succ32] at c5
          exact ih (i + 1) (by omega) (fun j hj => by
            by_cases e : j = i
            · rw [e]; exact hv
            · exact he j (by omega)) c5
        · exact ⟨25, _, 0, Or.inl rfl, Or.inr ⟨rfl, fun q => hv (q.2 i (by omega))⟩, c4.trans (by
            refine XS.icmpNo X0.here hexec rfl (hb hbytes d21) rfl (ii_eq_f hv) ?_
            refine iconstV X0.here hexec rfl 0 (hb hbytes d24) (by decide) ?_
            exact Steps.refl _)⟩
    obtain ⟨pc, Ls, v, hpc, hv, cz⟩ := loop A.slots.size 0 (by omega) (fun j hj => absurd hj (Nat.not_lt_zero j)) c3
    have nv : narrow .boolean (.int v) = .int v := by rcases hv with ⟨rfl, -⟩ | ⟨rfl, -⟩ <;> rfl
    rcases hpc with rfl | rfl
    · exact ⟨s₁, some (.int v), _, _, _, X0, rfl, rfl, rfl, (fun h => by cases h), ⟨v, rfl, hh0, hv⟩, fun fs hl => cz.trans (X0.ireturnOut hexec hret nv (Or.inr (Or.inl rfl)) (hb hbytes d25) hl)⟩
    · exact ⟨s₁, some (.int v), _, _, _, X0, rfl, rfl, rfl, (fun h => by cases h), ⟨v, rfl, hh0, hv⟩, fun fs hl => cz.trans (X0.ireturnOut hexec hret nv (Or.inr (Or.inl rfl)) (hb hbytes d33) hl)⟩
  · have c3 : Steps p.tables e below (s₁.setTop (entryFrame m #[.ref a, .ref b] 3)) (s₁.setTop (mkF m 35 #[.val (.ref a), .val (.ref b), .unset] [.int 0])) := c2.trans (by
      refine XS.icmpYes X0.here hexec rfl (pc0 := 4) rfl (hb hbytes d4) rfl (ii_ne_t (ne32 a31 b31 hs)) (by decide) rfl ?_
      refine iconstV X0.here hexec rfl 0 (hb hbytes d34) (by decide) ?_
      exact Steps.refl _)
    exact ⟨s₁, some (.int 0), _, _, _, X0, rfl, rfl, rfl, (fun h => by cases h), ⟨0, rfl, hh0, Or.inr ⟨rfl, fun q => hs q.1⟩⟩, fun fs hl => c3.trans (X0.ireturnOut hexec hret rfl (Or.inr (Or.inl rfl)) (hb hbytes d35) hl)⟩
end LEq
theorem Cod.ty {cd : Int32} {n : Nat} {f : Nat → Int32} {V : Cell} (h : Cod cd n f V) : Typed .byte V := fun i v hv => by
  have hi : i < V.slots.size := (Array.getElem?_eq_some_iff.mp hv).1
  rcases h with ⟨-, k1, k2⟩ | ⟨-, k1, k2, -⟩
  · rw [(k2 i (by omega)).1] at hv; cases hv; exact fits_lo8 _
  · rcases Nat.mod_two_eq_zero_or_one i with e | e
    · obtain ⟨j, rfl⟩ : ∃ j, i = 2 * j := ⟨i / 2, by omega⟩
      rw [(k2 j (by omega)).1] at hv; cases hv; exact fits_lo8 _
    · obtain ⟨j, rfl⟩ : ∃ j, i = 2 * j + 1 := ⟨i / 2, by omega⟩
      rw [(k2 j (by omega)).2] at hv; cases hv; exact fits_lo8 _
/-- the same text -/
def SameT (n : Nat) (f : Nat → Int32) (k : Nat) (g : Nat → Int32) : Prop := n = k ∧ ∀ j, j < n → f j = g j
theorem lo8_inj {x y : Int32} (h0 : ¬ x < 0) (h1 : ¬ 255 < x) (k0 : ¬ y < 0) (k1 : ¬ 255 < y) (h : lo8 x = lo8 y) : x = y := by
  rw [← lo8_mask h0 h1, ← lo8_mask k0 k1, h]
/-- arrays coded by one coder are equal just where the texts are -/
theorem Cod.eqv {cd : Int32} {n k : Nat} {f g : Nat → Int32} {V V' : Cell} (h : Cod cd n f V) (h' : Cod cd k g V') (hf : ∀ j, j < n → ¬ f j < 0 ∧ ¬ 65535 < f j) (hg : ∀ j, j < k → ¬ g j < 0 ∧ ¬ 65535 < g j) : EqC V V' ↔ SameT n f k g := by
  have yvv : ∀ {W : Cell} {i : Nat} {x : Int32}, W.slots[i]? = some (.int x) → yv W i = x := fun q => by unfold yv; rw [q]
  rcases h with ⟨rfl, k1, k2⟩ | ⟨rfl, k1, k2, -⟩
  · rcases h' with ⟨-, m1, m2⟩ | ⟨e, -⟩
    · constructor
      · rintro ⟨e1, e2⟩
        refine ⟨by omega, fun j hj => ?_⟩
        have q := e2 j (by omega)
        rw [yvv (k2 j hj).1, yvv (m2 j (by omega)).1] at q
        exact lo8_inj (hf j hj).1 (k2 j hj).2 (hg j (by omega)).1 (m2 j (by omega)).2 q
      · rintro ⟨rfl, e2⟩
        refine ⟨by omega, fun j hj => ?_⟩
        rw [yvv (k2 j (by omega)).1, yvv (m2 j (by omega)).1, e2 j (by omega)]
    · exact absurd e (by decide)
  · rcases h' with ⟨e, -⟩ | ⟨-, m1, m2, -⟩
    · exact absurd e (by decide)
    · constructor
      · rintro ⟨e1, e2⟩
        refine ⟨by omega, fun j hj => ?_⟩
        have q1 := e2 (2 * j) (by omega)
        have q2 := e2 (2 * j + 1) (by omega)
        rw [yvv (k2 j hj).1, yvv (m2 j (by omega)).1] at q1
        rw [yvv (k2 j hj).2, yvv (m2 j (by omega)).2] at q2
        rw [← pair_says (hf j hj).1 (hf j hj).2, ← pair_says (hg j (by omega)).1 (hg j (by omega)).2, q1, q2]
      · rintro ⟨rfl, e2⟩
        refine ⟨by omega, fun i hi => ?_⟩
        rcases Nat.mod_two_eq_zero_or_one i with e | e
        · obtain ⟨j, rfl⟩ : ∃ j, i = 2 * j := ⟨i / 2, by omega⟩
          rw [yvv (k2 j (by omega)).1, yvv (m2 j (by omega)).1, e2 j (by omega)]
        · obtain ⟨j, rfl⟩ : ∃ j, i = 2 * j + 1 := ⟨i / 2, by omega⟩
          rw [yvv (k2 j (by omega)).2, yvv (m2 j (by omega)).2, e2 j (by omega)]
/-- two codings differ: so do the texts -/
theorem Cod.dif {cd cd' : Int32} {n k : Nat} {f g : Nat → Int32} {V V' : Cell} (h : Cod cd n f V) (h' : Cod cd' k g V') (hne : ¬ cd = cd') : ¬ SameT n f k g := by
  rintro ⟨rfl, e⟩
  rcases h with ⟨rfl, -, k2⟩ | ⟨rfl, -, -, j, hj, hw⟩
  · rcases h' with ⟨rfl, -⟩ | ⟨-, -, -, j, hj, hw⟩
    · exact hne rfl
    · exact (k2 j hj).2 (by rw [e j hj]; exact hw)
  · rcases h' with ⟨-, -, m2⟩ | ⟨rfl, -⟩
    · exact (m2 j hj).2 (by rw [← e j hj]; exact hw)
    · exact hne rfl
/-- an object of exactly C is an instance of C -/
theorem cinst {p : Program} {l : Launch} {e : Env} {R : Room} {s : State} {m : MethodId} {args : Array Value} {below : List Frame} {meth : Method} {c : Code} {T : State} {locs : List Loc} {cells slots : Nat} (X : Stand p l e R s m args below meth c T locs cells slots) (hexec : p.tables.exec = Jvm.exec) {own C : String} {index : Nat} (hown : s.vm.findClass own = some m.cls) (hlink : (Cond.classLink own index C).before args s = true) {a : Addr} (hE : Exact C a T)
    {g : JFrame} (hg : g.method = m) {rest : List Value} (hstack : g.stack = .ref a :: rest) (hdg : decode c.code g.pc = .ok (.instanceof index, 3)) :
    ∃ T', Stand p l e R s m args below meth c T' locs cells slots ∧ T'.heap = T.heap ∧ ∀ target, Steps p.tables e below (T'.setTop { g with pc := g.pc + 3, stack := .int 1 :: rest }) target → Steps p.tables e below (T.setTop g) target := by
  obtain ⟨cB, h1, D, h2, h3, h4⟩ := hE
  have h1' : s.vm.findClass C = some cB := by rw [← X.warmed.alike.findClass]; exact h1
  obtain ⟨vm', X', st⟩ := X.instanceofYes hexec hown hlink h2 h4 h1' (by rw [h3]; exact Jvm.Free.SB.assignable_self _ _) hg hstack hdg
  exact ⟨_, X', rfl, st⟩
theorem cself {p : Program} {l : Launch} {e : Env} {R : Room} {s : State} {m : MethodId} {args : Array Value} {below : List Frame} {meth : Method} {c : Code} {T : State} {locs : List Loc} {cells slots : Nat} (X : Stand p l e R s m args below meth c T locs cells slots) (hexec : p.tables.exec = Jvm.exec) {own C : String} {index : Nat} (hown : s.vm.findClass own = some m.cls) (hlink : (Cond.classLink own index C).before args s = true) {a : Addr} (hE : Exact C a T)
    {g : JFrame} (hg : g.method = m) {rest : List Value} (hstack : g.stack = .ref a :: rest) (hdg : decode c.code g.pc = .ok (.checkcast index, 3)) :
    ∃ T', Stand p l e R s m args below meth c T' locs cells slots ∧ T'.heap = T.heap ∧ ∀ target, Steps p.tables e below (T'.setTop { g with pc := g.pc + 3, stack := .ref a :: rest }) target → Steps p.tables e below (T.setTop g) target := by
  obtain ⟨cB, h1, D, h2, h3, h4⟩ := hE
  have h1' : s.vm.findClass C = some cB := by rw [← X.warmed.alike.findClass]; exact h1
  obtain ⟨vm', X', st⟩ := X.checkcastYes hexec hown hlink h2 h4 h1' (by rw [h3]; exact Jvm.Free.SB.assignable_self _ _) hg hstack hdg
  exact ⟨_, X', rfl, fun t h => st t (by rw [← hstack] at h; exact h)⟩
namespace SEq
def yN : MethodName := ⟨"java/lang/String", "equals", "(Ljava/lang/Object;)Z"⟩
abbrev yB : ByteArray := jdk_42_method_66_code
theorem d0 : decode yB 0 = .ok (.aload_n 0, 1) := by decide +kernel
theorem d1 : decode yB 1 = .ok (.aload_n 1, 1) := by decide +kernel
theorem d2 : decode yB 2 = .ok (.if_acmp (.ne) 5, 3) := by decide +kernel
theorem d5 : decode yB 5 = .ok (.iconst 1, 1) := by decide +kernel
theorem d6 : decode yB 6 = .ok (.ireturn, 1) := by decide +kernel
theorem d7 : decode yB 7 = .ok (.aload_n 1, 1) := by decide +kernel
theorem d8 : decode yB 8 = .ok (.instanceof 10, 3) := by decide +kernel
theorem d11 : decode yB 11 = .ok (.ifCond (.eq) 43, 3) := by decide +kernel
theorem d14 : decode yB 14 = .ok (.aload_n 1, 1) := by decide +kernel
theorem d15 : decode yB 15 = .ok (.checkcast 10, 3) := by decide +kernel
theorem d18 : decode yB 18 = .ok (.astore_n 2, 1) := by decide +kernel
theorem d19 : decode yB 19 = .ok (.getstatic 38, 3) := by decide +kernel
theorem d22 : decode yB 22 = .ok (.ifCond (.eq) 14, 3) := by decide +kernel
theorem d25 : decode yB 25 = .ok (.aload_n 0, 1) := by decide +kernel
theorem d26 : decode yB 26 = .ok (.getfield 15, 3) := by decide +kernel
theorem d29 : decode yB 29 = .ok (.aload_n 2, 1) := by decide +kernel
theorem d30 : decode yB 30 = .ok (.getfield 15, 3) := by decide +kernel
theorem d33 : decode yB 33 = .ok (.if_icmp (.ne) 21, 3) := by decide +kernel
theorem d36 : decode yB 36 = .ok (.aload_n 0, 1) := by decide +kernel
theorem d37 : decode yB 37 = .ok (.getfield 9, 3) := by decide +kernel
theorem d40 : decode yB 40 = .ok (.aload_n 2, 1) := by decide +kernel
theorem d41 : decode yB 41 = .ok (.getfield 9, 3) := by decide +kernel
theorem d44 : decode yB 44 = .ok (.invokestatic 541, 3) := by decide +kernel
theorem d47 : decode yB 47 = .ok (.ifCond (.eq) 7, 3) := by decide +kernel
theorem d50 : decode yB 50 = .ok (.iconst 1, 1) := by decide +kernel
theorem d51 : decode yB 51 = .ok (.goto 4, 3) := by decide +kernel
theorem d54 : decode yB 54 = .ok (.iconst 0, 1) := by decide +kernel
theorem d55 : decode yB 55 = .ok (.ireturn, 1) := by decide +kernel
def site : List Cond := [.classLink "java/lang/String" 10 "java/lang/String", .fieldLink "java/lang/String" 38 "java/lang/String" "COMPACT_STRINGS" "Z", .fieldLink "java/lang/String" 15 "java/lang/String" "coder" "B", .fieldLink "java/lang/String" 9 "java/lang/String" "value" "[B", LEq.tab] ++ staticW "java/lang/String" 541 LEq.yN
def tab : Cond := tabOf yN yB 3 (some .boolean) site
def P (x t : Addr) (V : Cell) (cd : Int32) (n : Nat) (f : Nat → Int32) (y t' : Addr) (V' : Cell) (cd' : Int32) (k : Nat) (g : Nat → Int32) (z : Int32) (args : Array Value) (s : State) : Prop := args = #[.ref x, .ref y] ∧ Txt x t V cd n f s ∧ Txt y t' V' cd' k g s ∧ StaticIs s "java/lang/String" "COMPACT_STRINGS" "Z" (.int z) ∧ ¬ z = 0
/-- equals(Object) of two Strings: whether the texts are the same -/
theorem law (l : Launch) (x t : Addr) (V : Cell) (cd : Int32) (n : Nat) (f : Nat → Int32) (y t' : Addr) (V' : Cell) (cd' : Int32) (k : Nat) (g : Nat → Int32) (z : Int32) : Law l yN 2 1 1 14 yB 3 (some .boolean) site (P x t V cd n f y t' V' cd' k g z) (Says01 (SameT n f k g)) [] 0 0 := by
  refine Law.of_walk (plainFor_of_name (by decide +kernel)) (by decide +kernel) (by decide +kernel) (by decide) (fun _ _ h => by rw [h.1]; rfl) (fun _ U U' hal hh h => ⟨h.1, h.2.1.mv hal hh, h.2.2.1.mv hal hh, h.2.2.2.1.there hal hh, h.2.2.2.2⟩) (fun r U U' V V' h1 hal h2 h => Says01.mv r U U' V V' h1 hal h2 h) ?_
  intro p e s m args below meth c s₁ X0 hexec hbytes hml hret hlk hnm hown hh0 W hP
  obtain ⟨rfl, hx, hy, s1, hz⟩ := hP
  have c1 : Steps p.tables e below (s₁.setTop (entryFrame m #[.ref x, .ref y] 3)) (s₁.setTop (mkF m 2 #[.val (.ref x), .val (.ref y), .unset] [.ref y, .ref x])) := Steps.trans (entry rfl) (by
    show Steps p.tables e below (s₁.setTop (mkF m 0 #[.val (.ref x), .val (.ref y), .unset] [])) _
    refine XS.aloadN X0.here hexec rfl (hb hbytes d0) rfl rfl ?_
    refine XS.aloadN X0.here hexec rfl (hb hbytes d1) rfl rfl ?_
    exact Steps.refl _)
  by_cases hxy : x = y
  · have c2 : Steps p.tables e below (s₁.setTop (entryFrame m #[.ref x, .ref y] 3)) (s₁.setTop (mkF m 6 #[.val (.ref x), .val (.ref y), .unset] [.int 1])) := c1.trans (by
      refine acmpNo X0.here hexec rfl (hb hbytes d2) rfl rfl rfl (by simp [acmp, hxy]) ?_
      refine iconstV X0.here hexec rfl 1 (hb hbytes d5) (by decide) ?_
      exact Steps.refl _)
    subst hxy
    have ec : cd = cd' := by
      obtain ⟨D, fd, a1, a2, a3⟩ := hx.2.2.1
      obtain ⟨D', fd', b1, b2, b3⟩ := hy.2.2.1
      cases a1.symm.trans b1
      obtain ⟨q1, q2, q3, q4⟩ := a2.1
      obtain ⟨r1, r2, r3, r4⟩ := b2.1
      cases q4.symm.trans r4
      cases a3.symm.trans b3; rfl
    have et : t = t' := by
      obtain ⟨D, fd, a1, a2, a3⟩ := hx.2.1
      obtain ⟨D', fd', b1, b2, b3⟩ := hy.2.1
      cases a1.symm.trans b1
      obtain ⟨q1, q2, q3, q4⟩ := a2.1
      obtain ⟨r1, r2, r3, r4⟩ := b2.1
      cases q4.symm.trans r4
      cases a3.symm.trans b3; rfl
    subst ec et
    have ev : V = V' := by cases hx.2.2.2.1.1.symm.trans hy.2.2.2.1.1; rfl
    subst ev
    have hs : SameT n f k g := (Cod.eqv hx.2.2.2.2.1 hy.2.2.2.2.1 hx.2.2.2.2.2 hy.2.2.2.2.2).mp ⟨rfl, fun _ _ => rfl⟩
    exact ⟨s₁, some (.int 1), _, _, _, X0, rfl, rfl, rfl, (fun h => by cases h), ⟨1, rfl, hh0, Or.inl ⟨rfl, hs⟩⟩, fun fs hl => c2.trans (X0.ireturnOut hexec hret rfl (Or.inr (Or.inl rfl)) (hb hbytes d6) hl)⟩
  · have c2 : Steps p.tables e below (s₁.setTop (entryFrame m #[.ref x, .ref y] 3)) (s₁.setTop (mkF m 8 #[.val (.ref x), .val (.ref y), .unset] [.ref y])) := c1.trans (by
      refine acmpYes X0.here hexec rfl (pc0 := 2) rfl (hb hbytes d2) rfl rfl rfl (by simp [acmp, hxy]) (by decide) rfl ?_
      refine XS.aloadN X0.here hexec rfl (hb hbytes d7) rfl rfl ?_
      exact Steps.refl _)
    obtain ⟨T3, X3, q3, st3⟩ := cinst X0 hexec hown (wk W (.classLink "java/lang/String" 10 "java/lang/String")) (hy.mv X0.warmed.alike hh0).1 (g := (mkF m 8 #[.val (.ref x), .val (.ref y), .unset] [.ref y])) rfl (rest := []) rfl (hb hbytes d8)
    have hh3 := q3.trans hh0
    have c4 : Steps p.tables e below (s₁.setTop (entryFrame m #[.ref x, .ref y] 3)) (T3.setTop (mkF m 15 #[.val (.ref x), .val (.ref y), .unset] [.ref y])) := (c2.trans (st3 _ (Steps.refl _))).trans (by
      refine XS.ifNo X3.here hexec rfl (hb hbytes d11) rfl (i0_eq_f (by decide)) ?_
      refine XS.aloadN X3.here hexec rfl (hb hbytes d14) rfl rfl ?_
      exact Steps.refl _)
    obtain ⟨T5, X5, q5, st5⟩ := cself X3 hexec hown (wk W (.classLink "java/lang/String" 10 "java/lang/String")) (hy.mv X3.warmed.alike hh3).1 (g := (mkF m 15 #[.val (.ref x), .val (.ref y), .unset] [.ref y])) rfl (rest := []) rfl (hb hbytes d15)
    have hh5 := q5.trans hh3
    have c6 : Steps p.tables e below (s₁.setTop (entryFrame m #[.ref x, .ref y] 3)) (T5.setTop (mkF m 19 #[.val (.ref x), .val (.ref y), .val (.ref y)] [])) := (c4.trans (st5 _ (Steps.refl _))).trans (by
      refine XS.astoreN X5.here hexec rfl (hb hbytes d18) rfl rfl rfl ?_
      exact Steps.refl _)
    obtain ⟨T7, X7, q7, st7⟩ := X5.sget hexec hown (wk W (.fieldLink "java/lang/String" 38 "java/lang/String" "COMPACT_STRINGS" "Z")) s1 (fun _ _ h => by rw [hh5]; exact h) (g := (mkF m 19 #[.val (.ref x), .val (.ref y), .val (.ref y)] [])) rfl (hb hbytes d19)
    have hh7 := q7.trans hh5
    have c8 : Steps p.tables e below (s₁.setTop (entryFrame m #[.ref x, .ref y] 3)) (T7.setTop (mkF m 26 #[.val (.ref x), .val (.ref y), .val (.ref y)] [.ref x])) := (c6.trans (st7 _ (Steps.refl _))).trans (by
      refine XS.ifNo X7.here hexec rfl (hb hbytes d22) rfl (i0_eq_f hz) ?_
      refine XS.aloadN X7.here hexec rfl (hb hbytes d25) rfl rfl ?_
      exact Steps.refl _)
    obtain ⟨T9, X9, q9, st9⟩ := X7.hget hexec hown (wk W (.fieldLink "java/lang/String" 15 "java/lang/String" "coder" "B")) (hx.mv X7.warmed.alike hh7).2.2.1 (g := (mkF m 26 #[.val (.ref x), .val (.ref y), .val (.ref y)] [.ref x])) rfl (rest := []) rfl (hb hbytes d26)
    have hh9 := q9.trans hh7
    have c10 : Steps p.tables e below (s₁.setTop (entryFrame m #[.ref x, .ref y] 3)) (T9.setTop (mkF m 30 #[.val (.ref x), .val (.ref y), .val (.ref y)] [.ref y, .int cd])) := (c8.trans (st9 _ (Steps.refl _))).trans (by
      refine XS.aloadN X9.here hexec rfl (hb hbytes d29) rfl rfl ?_
      exact Steps.refl _)
    obtain ⟨T11, X11, q11, st11⟩ := X9.hget hexec hown (wk W (.fieldLink "java/lang/String" 15 "java/lang/String" "coder" "B")) (hy.mv X9.warmed.alike hh9).2.2.1 (g := (mkF m 30 #[.val (.ref x), .val (.ref y), .val (.ref y)] [.ref y, .int cd])) rfl (rest := [.int cd]) rfl (hb hbytes d30)
    have hh11 := q11.trans hh9
    have c12 : Steps p.tables e below (s₁.setTop (entryFrame m #[.ref x, .ref y] 3)) (T11.setTop (mkF m 33 #[.val (.ref x), .val (.ref y), .val (.ref y)] [.int cd', .int cd])) := c10.trans (st11 _ (Steps.refl _))
    by_cases hcd : cd = cd'
    · subst hcd
      have c13 : Steps p.tables e below (s₁.setTop (entryFrame m #[.ref x, .ref y] 3)) (T11.setTop (mkF m 37 #[.val (.ref x), .val (.ref y), .val (.ref y)] [.ref x])) := c12.trans (by
        refine XS.icmpNo X11.here hexec rfl (hb hbytes d33) rfl (ii_ne_f rfl) ?_
        refine XS.aloadN X11.here hexec rfl (hb hbytes d36) rfl rfl ?_
        exact Steps.refl _)
      obtain ⟨T14, X14, q14, st14⟩ := X11.hget hexec hown (wk W (.fieldLink "java/lang/String" 9 "java/lang/String" "value" "[B")) (hx.mv X11.warmed.alike hh11).2.1 (g := (mkF m 37 #[.val (.ref x), .val (.ref y), .val (.ref y)] [.ref x])) rfl (rest := []) rfl (hb hbytes d37)
      have hh14 := q14.trans hh11
      have c15 : Steps p.tables e below (s₁.setTop (entryFrame m #[.ref x, .ref y] 3)) (T14.setTop (mkF m 41 #[.val (.ref x), .val (.ref y), .val (.ref y)] [.ref y, .ref t])) := (c13.trans (st14 _ (Steps.refl _))).trans (by
        refine XS.aloadN X14.here hexec rfl (hb hbytes d40) rfl rfl ?_
        exact Steps.refl _)
      obtain ⟨T16, X16, q16, st16⟩ := X14.hget hexec hown (wk W (.fieldLink "java/lang/String" 9 "java/lang/String" "value" "[B")) (hy.mv X14.warmed.alike hh14).2.1 (g := (mkF m 41 #[.val (.ref x), .val (.ref y), .val (.ref y)] [.ref y, .ref t])) rfl (rest := [.ref t]) rfl (hb hbytes d41)
      have hh16 := q16.trans hh14
      have c17 : Steps p.tables e below (s₁.setTop (entryFrame m #[.ref x, .ref y] 3)) (T16.setTop (mkF m 44 #[.val (.ref x), .val (.ref y), .val (.ref y)] [.ref t', .ref t])) := c15.trans (st16 _ (Steps.refl _))
      obtain ⟨v18, T18, X18, E18, g18⟩ := X16.callS hexec (LEq.law l t V t' V') hown (wks W (staticW "java/lang/String" 541 LEq.yN)) (wk W LEq.tab) (W := 0) (Nat.le_of_ble_eq_true rfl) (Nat.le_of_ble_eq_true rfl) (Nat.le_refl _) (Nat.le_refl _) (g := (mkF m 44 #[.val (.ref x), .val (.ref y), .val (.ref y)] [.ref t', .ref t])) rfl (by rw [hml]; rfl) c17 (argsL := [.ref t, .ref t']) (rest := []) rfl rfl (by show 2 * 0 + 0 ≤ _; decide) (hb hbytes d44) (⟨rfl, hx.2.2.2.1.mv X16.warmed.alike hh16, hx.2.2.2.2.1.ty, hy.2.2.2.1.mv X16.warmed.alike hh16, hy.2.2.2.2.1.ty⟩)
      obtain ⟨v, rfl, q18, hv⟩ := E18
      have iff := Cod.eqv hx.2.2.2.2.1 hy.2.2.2.2.1 hx.2.2.2.2.2 hy.2.2.2.2.2
      rcases hv with ⟨rfl, he⟩ | ⟨rfl, he⟩
      · have c19 : Steps p.tables e below (s₁.setTop (entryFrame m #[.ref x, .ref y] 3)) (T18.setTop (mkF m 55 #[.val (.ref x), .val (.ref y), .val (.ref y)] [.int 1])) := Steps.trans g18 (by
          refine XS.ifNo X18.here hexec rfl (hb hbytes d47) rfl (i0_eq_f (by decide)) ?_
          refine iconstV X18.here hexec rfl 1 (hb hbytes d50) (by decide) ?_
          refine XS.goto X18.here hexec rfl (pc0 := 51) rfl (hb hbytes d51) (by decide) rfl ?_
          exact Steps.refl _)
        exact ⟨T18, some (.int 1), _, _, _, X18, rfl, rfl, rfl, (fun h => by cases h), ⟨1, rfl, q18.trans hh16, Or.inl ⟨rfl, iff.mp he⟩⟩, fun fs hl => c19.trans (X18.ireturnOut hexec hret rfl (Or.inr (Or.inl rfl)) (hb hbytes d55) hl)⟩
      · have c19 : Steps p.tables e below (s₁.setTop (entryFrame m #[.ref x, .ref y] 3)) (T18.setTop (mkF m 55 #[.val (.ref x), .val (.ref y), .val (.ref y)] [.int 0])) := Steps.trans g18 (by
          refine XS.ifYes X18.here hexec rfl (pc0 := 47) rfl (hb hbytes d47) rfl (i0_eq_t rfl) (by decide) rfl ?_
          refine iconstV X18.here hexec rfl 0 (hb hbytes d54) (by decide) ?_
          exact Steps.refl _)
        exact ⟨T18, some (.int 0), _, _, _, X18, rfl, rfl, rfl, (fun h => by cases h), ⟨0, rfl, q18.trans hh16, Or.inr ⟨rfl, fun q => he (iff.mpr q)⟩⟩, fun fs hl => c19.trans (X18.ireturnOut hexec hret rfl (Or.inr (Or.inl rfl)) (hb hbytes d55) hl)⟩
    · have c13 : Steps p.tables e below (s₁.setTop (entryFrame m #[.ref x, .ref y] 3)) (T11.setTop (mkF m 55 #[.val (.ref x), .val (.ref y), .val (.ref y)] [.int 0])) := c12.trans (by
        refine XS.icmpYes X11.here hexec rfl (pc0 := 33) rfl (hb hbytes d33) rfl (ii_ne_t hcd) (by decide) rfl ?_
        refine iconstV X11.here hexec rfl 0 (hb hbytes d54) (by decide) ?_
        exact Steps.refl _)
      exact ⟨T11, some (.int 0), _, _, _, X11, rfl, rfl, rfl, (fun h => by cases h), ⟨0, rfl, hh11, Or.inr ⟨rfl, Cod.dif hx.2.2.2.2.1 hy.2.2.2.2.1 hcd⟩⟩, fun fs hl => c13.trans (X11.ireturnOut hexec hret rfl (Or.inr (Or.inl rfl)) (hb hbytes d55) hl)⟩
theorem pays {l : Launch} {R : Room} {p : Program} {e : Env} {below : List Frame} {s : State} {sargs : Array Value} {len W : Nat} (x t : Addr) (V : Cell) (cd : Int32) (n : Nat) (f : Nat → Int32) (y t' : Addr) (V' : Cell) (cd' : Int32) (k : Nat) (g : Nat → Int32) (z : Int32) (htab : tab.before sargs s = true) (hfr : 2 ≤ R.frames) (hlo : W + 28 ≤ R.locals) :
    Back l R p e below s sargs yN len W (fun A₁ a₁ => A₁.cells + 0 ≤ R.cells ∧ A₁.slots + 0 ≤ R.slots ∧ P x t V cd n f y t' V' cd' k g z a₁ A₁.U) (fun A₁ _ v₁ B₁ => Says01 (SameT n f k g) v₁ A₁.U B₁.U ∧ B₁.locs = A₁.locs ++ [] ∧ B₁.cells = A₁.cells + 0 ∧ B₁.slots = A₁.slots + 0) :=
  (law l x t V cd n f y t' V' cd' k g z).pays htab hfr (by omega)
end SEq
end StrChars
namespace StrChars.Road
open Jvm Sem ClassFile Op Lib Jvm.Stand Jvm.Free Jvm.Free.XT
open Jvm.Lib.Cold (StaticIs)
/-- the words of String.equals(Object) -/
abbrev wordsEq : List Jvm.Cond := [.code SEq.yN SEq.yB 3 (some .boolean), .initialized ST, .classLink ST 10 ST, .fieldLink ST 38 ST "COMPACT_STRINGS" "Z", .fieldLink ST 15 ST "coder" "B", .fieldLink ST 9 ST "value" "[B", .methodLink ST 541 LEq.yN, .static LEq.yN, .code LEq.yN LEq.yB 3 (some .boolean), .initialized "java/lang/StringLatin1"]
theorem tabEq_of {a : Array Value} {s : State} (h : ∀ w ∈ wordsEq, w.before a s = true) : SEq.tab.before a s = true := by
  have hl : LEq.tab.before a s = true := unparts (wk h (.code LEq.yN LEq.yB 3 (some .boolean))) (wks h (.initialized LEq.yN.cls :: LEq.site))
  have q := consq hl h
  exact unparts (wk q (.code SEq.yN SEq.yB 3 (some .boolean))) (wks q (.initialized SEq.yN.cls :: SEq.site))
theorem movedEq {Z s : State} {a0 args : Array Value} (hZ : Z.Warmed39 s.vm) (hw : ∀ d ∈ wordsEq, d.before a0 Z = true) : ∀ d ∈ wordsEq, d.before args s = true := fun d hd => by
  have t : ∀ d ∈ wordsEq, (d.onTables && d.keepsFace) = true := by decide +kernel
  exact RoadKit.mv hZ (hw d hd) (t d hd)
/-- the road's facts of a String, as the laws ask it -/
theorem txt_of {Z U : State} {a0 : Array Value} {kI : Nat} (wi : (Jvm.Cond.instantiable ST kI).before a0 Z = true) (al : Z.vm.Alike U.vm) {x t : Addr} {kb : ClassId} {cs : List Int32} {cd N2 : Int32} {vs : List Value} (E : RoadKit.Exa Z U.heap x ST) (V : RoadKit.Fld Z U.heap x ST "value" "[B" (.ref t)) (C : RoadKit.Fld Z U.heap x ST "coder" "B" (.int cd)) (K : RoadKit.Arv Z U.heap t kb .byte N2 vs (.int 0)) (hc : CodA cs cd N2 vs) (hb : ∀ c ∈ cs, ¬ c < 0 ∧ ¬ (65535 : Int32) < c) (l2 : cs.length ≤ 4000) :
    ∃ A, Txt x t A cd cs.length (fun j => cs.getD j 0) U := by
  obtain ⟨A, K1, K2, K3, K4, K5, K6⟩ := K
  have hcod := hc.cod (by omega) K3 K5
  obtain ⟨D, fV, fC, hB, F1, F2, g1, g2, -, -⟩ := strObj wi al E V C
  exact ⟨A, ⟨_, hB.2.2.1, D, hB.1, rfl, by cases q : D.vm <;> first | rfl | exact absurd q (hB.2.1.2 _)⟩, Has.of hB F1 g1, Has.of hB F2 g2, ⟨K1.1, State.isArrayOf_alike al K1.2.1, K1.2.2, by rcases hcod with ⟨-, q, -⟩ | ⟨-, q, -⟩ <;> omega⟩, hcod, fun j hj => by
    have e : cs.getD j 0 = cs[j] := by simp [List.getD_eq_getElem?_getD, hj]
    show ¬ cs.getD j 0 < 0 ∧ ¬ 65535 < cs.getD j 0
    rw [e]; exact hb _ (List.getElem_mem _)⟩
theorem same_list (cs ds : List Int32) : SameT cs.length (fun j => cs.getD j 0) ds.length (fun j => ds.getD j 0) ↔ cs = ds := by
  constructor
  · rintro ⟨e, q⟩
    refine List.ext_getElem e fun j h1 h2 => ?_
    have := q j h1
    simpa [List.getD_eq_getElem?_getD, h1, h2] using this
  · rintro rfl
    exact ⟨rfl, fun _ _ => rfl⟩
/-- **equals(Object) OF TWO SUCH STRINGS**: 1 just where the chars are the same -/
theorem eqW {p : Program} {l : Launch} {e : Env} {R : Room} {s : State} {args : Array Value} {below : List Frame} {len W : Nat} {Z : State} {a0 : Array Value} {h : Heap} (hZ : Z.Warmed39 s.vm) (hw : ∀ d ∈ wordsEq, d.before a0 Z = true) {kI : Nat} (wi : (Jvm.Cond.instantiable ST kI).before a0 Z = true)
    {x t : Addr} {kb : ClassId} {cs : List Int32} {cd N2 : Int32} {vs : List Value} (E : RoadKit.Exa Z h x ST) (V : RoadKit.Fld Z h x ST "value" "[B" (.ref t)) (C : RoadKit.Fld Z h x ST "coder" "B" (.int cd)) (K : RoadKit.Arv Z h t kb .byte N2 vs (.int 0)) (hc : CodA cs cd N2 vs) (hb : ∀ c ∈ cs, ¬ c < 0 ∧ ¬ (65535 : Int32) < c) (l2 : cs.length ≤ 4000)
    {y t' : Addr} {kb' : ClassId} {ds : List Int32} {cd' N2' : Int32} {vs' : List Value} (E' : RoadKit.Exa Z h y ST) (V' : RoadKit.Fld Z h y ST "value" "[B" (.ref t')) (C' : RoadKit.Fld Z h y ST "coder" "B" (.int cd')) (K' : RoadKit.Arv Z h t' kb' .byte N2' vs' (.int 0)) (hc' : CodA ds cd' N2' vs') (hb' : ∀ c ∈ ds, ¬ c < 0 ∧ ¬ (65535 : Int32) < c) (l2' : ds.length ≤ 4000)
    {z : Int32} (S : RoadKit.Sta Z h ST "COMPACT_STRINGS" "Z" (.int z)) (hz : ¬ z = 0) (hfr : 2 ≤ R.frames) (hlo : W + 28 ≤ R.locals) :
    Back l R p e below s args (⟨"java/lang/String", "equals", "(Ljava/lang/Object;)Z"⟩ : MethodName) len W (fun P a => a = #[.ref x, .ref y] ∧ P.U.heap = h ∧ P.cells + 0 ≤ R.cells ∧ P.slots + 0 ≤ R.slots)
      (fun P _ v B => ∃ L, (((v = some (.int 1) ∧ cs = ds) ∨ (v = some (.int 0) ∧ ¬ cs = ds)) ∧ L = [] ∧ B.U.heap = h) ∧ B.locs = P.locs ++ L ∧ B.cells = P.cells + 0 ∧ B.slots = P.slots + 0) := by
  intro m meth c P g ig mk a X hg hsize hdg hW hn hp'
  obtain ⟨rfl, rfl, r1, r2⟩ := hp'
  have al : Z.vm.Alike P.U.vm := hZ.alike.trans X.warmed.alike
  obtain ⟨A, hx⟩ := txt_of wi al E V C K hc hb l2
  obtain ⟨A', hy⟩ := txt_of wi al E' V' C' K' hc' hb' l2'
  obtain ⟨v, B, X', ⟨⟨w, hv, hh, hq⟩, hl, hk, hs⟩, st⟩ := SEq.pays x t A cd cs.length (fun j => cs.getD j 0) y t' A' cd' ds.length (fun j => ds.getD j 0) z (tabEq_of (movedEq hZ hw)) hfr hlo m meth c P g ig mk _ X hg hsize hdg hW hn ⟨r1, r2, rfl, hx, hy, sta_is al S, hz⟩
  refine ⟨v, B, X', ⟨[], ⟨?_, rfl, hh⟩, hl, hk, hs⟩, st⟩
  rcases hq with ⟨rfl, q⟩ | ⟨rfl, q⟩
  · exact Or.inl ⟨hv, (same_list cs ds).mp q⟩
  · exact Or.inr ⟨hv, fun e => q ((same_list cs ds).mpr e)⟩
end StrChars.Road
namespace StrChars.Road
open Jvm Sem ClassFile Op Lib Jvm.Stand Jvm.Free Jvm.Free.XT
open Jvm.Lib.Cold (StaticIs)
/-- what backV says of its String, as the contracts of this text ask it: cs's low bytes, coder 0 -/
theorem codOf {cs : List Int32} {n : Nat} (hn : cs.length = n) (hb : ∀ c ∈ cs, ¬ 255 < c) : CodA cs 0 (Int32.ofNat n) ((cs.map lo8).map Value.int) := Or.inl ⟨rfl, by rw [hn], by simp [List.map_map, Function.comp_def], hb⟩
end StrChars.Road
end Jvm.Pilot.@@N@@

namespace Jvm.Pilot.@@N@@
open Jvm Jvm.ClassFile Sem Op Lib Jvm.Free Jvm.Stand Jvm.LawKit Jvm.RoadKit Bundle Jvm.Pilot.@@N@@.Jvm.D
theorem own_w0 : (Jvm.Cond.constant "com/example/librow/librow/TokenIsSymbolPinLaw" (7 : Nat) (2147483647 : Int32)) ∈ tables_1 := List.mem_of_getElem? (i := 0) rfl
theorem own_w1 : (Jvm.Cond.methodLink "com/example/librow/librow/TokenIsSymbolPinLaw" (8 : Nat) ({ cls := "com/example/librow/librow/TokenIsSymbolPinLaw", name := "str", desc := "(ICC)Ljava/lang/String;" } : Jvm.MethodName)) ∈ tables_1 := List.mem_of_getElem? (i := 1) rfl
theorem own_w2 : (Jvm.Cond.static ({ cls := "com/example/librow/librow/TokenIsSymbolPinLaw", name := "str", desc := "(ICC)Ljava/lang/String;" } : Jvm.MethodName)) ∈ tables_1 := List.mem_of_getElem? (i := 2) rfl
theorem own_w3 : (Jvm.Cond.initialized "com/example/librow/librow/TokenIsSymbolPinLaw") ∈ tables_1 := List.mem_of_getElem? (i := 3) rfl
theorem own_w4 : (Jvm.Cond.code ({ cls := "com/example/librow/librow/TokenIsSymbolPinLaw", name := "str", desc := "(ICC)Ljava/lang/String;" } : Jvm.MethodName) method_3_code (3 : Nat) (Option.some (Jvm.ClassFile.FieldType.object "java/lang/String"))) ∈ tables_1 := List.mem_of_getElem? (i := 4) rfl
theorem own_w5 : (Jvm.Cond.classLink "com/example/librow/librow/TokenIsSymbolPinLaw" (27 : Nat) "java/lang/String") ∈ tables_1 := List.mem_of_getElem? (i := 5) rfl
theorem own_w6 : (Jvm.Cond.instantiable "java/lang/String" (4 : Nat)) ∈ tables_1 := List.mem_of_getElem? (i := 6) rfl
theorem own_w7 : (Jvm.Cond.initialized "java/lang/String") ∈ tables_1 := List.mem_of_getElem? (i := 7) rfl
theorem own_w8 : (Jvm.Cond.arrayClass Jvm.ClassFile.FieldType.char) ∈ tables_1 := List.mem_of_getElem? (i := 8) rfl
theorem own_w9 : (Jvm.Cond.methodLink "com/example/librow/librow/TokenIsSymbolPinLaw" (29 : Nat) ({ cls := "java/lang/String", name := "<init>", desc := "([C)V" } : Jvm.MethodName)) ∈ tables_1 := List.mem_of_getElem? (i := 9) rfl
theorem own_w10 : (Jvm.Cond.instanceMethod ({ cls := "java/lang/String", name := "<init>", desc := "([C)V" } : Jvm.MethodName)) ∈ tables_1 := List.mem_of_getElem? (i := 10) rfl
theorem own_w11 : (Jvm.Cond.code ({ cls := "java/lang/String", name := "<init>", desc := "([C)V" } : Jvm.MethodName) jdk_42_method_3_code (2 : Nat) (Option.none : Option Jvm.ClassFile.FieldType)) ∈ tables_1 := List.mem_of_getElem? (i := 11) rfl
theorem own_w12 : (Jvm.Cond.methodLink "java/lang/String" (27 : Nat) ({ cls := "java/lang/String", name := "<init>", desc := "([CIILjava/lang/Void;)V" } : Jvm.MethodName)) ∈ tables_1 := List.mem_of_getElem? (i := 12) rfl
theorem own_w13 : (Jvm.Cond.instanceMethod ({ cls := "java/lang/String", name := "<init>", desc := "([CIILjava/lang/Void;)V" } : Jvm.MethodName)) ∈ tables_1 := List.mem_of_getElem? (i := 13) rfl
theorem own_w15 : (Jvm.Cond.code ({ cls := "java/lang/String", name := "<init>", desc := "([CIILjava/lang/Void;)V" } : Jvm.MethodName) jdk_42_method_149_code (6 : Nat) (Option.none : Option Jvm.ClassFile.FieldType)) ∈ tables_1 := List.mem_of_getElem? (i := 15) rfl
theorem own_w16 : (Jvm.Cond.methodLink "java/lang/String" (1 : Nat) ({ cls := "java/lang/Object", name := "<init>", desc := "()V" } : Jvm.MethodName)) ∈ tables_1 := List.mem_of_getElem? (i := 16) rfl
theorem own_w17 : (Jvm.Cond.instanceMethod ({ cls := "java/lang/Object", name := "<init>", desc := "()V" } : Jvm.MethodName)) ∈ tables_1 := List.mem_of_getElem? (i := 17) rfl
theorem own_w18 : (Jvm.Cond.code ({ cls := "java/lang/Object", name := "<init>", desc := "()V" } : Jvm.MethodName) object_method_1_code (1 : Nat) (Option.none : Option Jvm.ClassFile.FieldType)) ∈ tables_1 := List.mem_of_getElem? (i := 18) rfl
theorem own_w31 : (Jvm.Cond.fieldLink "java/lang/String" (15 : Nat) "java/lang/String" "coder" "B") ∈ tables_1 := List.mem_of_getElem? (i := 31) rfl
theorem own_w32 : (Jvm.Cond.laysFinal "java/lang/String" "java/lang/String" "coder" "B") ∈ tables_1 := List.mem_of_getElem? (i := 32) rfl
theorem own_w33 : (Jvm.Cond.fieldLink "java/lang/String" (9 : Nat) "java/lang/String" "value" "[B") ∈ tables_1 := List.mem_of_getElem? (i := 33) rfl
theorem own_w34 : (Jvm.Cond.laysFinal "java/lang/String" "java/lang/String" "value" "[B") ∈ tables_1 := List.mem_of_getElem? (i := 34) rfl
theorem own_w35 : (Jvm.Cond.stringLink "java/lang/String" (7 : Nat) "") ∈ tables_1 := List.mem_of_getElem? (i := 35) rfl
theorem own_w38 : (Jvm.Cond.classLink "com/example/librow/librow/TokenIsSymbolPinLaw" (14 : Nat) "com/example/librow/librow/QueryLexer$Token") ∈ tables_1 := List.mem_of_getElem? (i := 38) rfl
theorem own_w39 : (Jvm.Cond.instantiable "com/example/librow/librow/QueryLexer$Token" (4 : Nat)) ∈ tables_1 := List.mem_of_getElem? (i := 39) rfl
theorem own_w40 : (Jvm.Cond.initialized "com/example/librow/librow/QueryLexer$Token") ∈ tables_1 := List.mem_of_getElem? (i := 40) rfl
theorem own_w41 : (Jvm.Cond.methodLink "com/example/librow/librow/TokenIsSymbolPinLaw" (16 : Nat) ({ cls := "com/example/librow/librow/TokenIsSymbolPinLaw", name := "kind", desc := "(I)Lcom/example/librow/librow/QueryLexer$Kind;" } : Jvm.MethodName)) ∈ tables_1 := List.mem_of_getElem? (i := 41) rfl
theorem own_w42 : (Jvm.Cond.static ({ cls := "com/example/librow/librow/TokenIsSymbolPinLaw", name := "kind", desc := "(I)Lcom/example/librow/librow/QueryLexer$Kind;" } : Jvm.MethodName)) ∈ tables_1 := List.mem_of_getElem? (i := 42) rfl
theorem own_w43 : (Jvm.Cond.code ({ cls := "com/example/librow/librow/TokenIsSymbolPinLaw", name := "kind", desc := "(I)Lcom/example/librow/librow/QueryLexer$Kind;" } : Jvm.MethodName) method_4_code (1 : Nat) (Option.some (Jvm.ClassFile.FieldType.object "com/example/librow/librow/QueryLexer$Kind"))) ∈ tables_1 := List.mem_of_getElem? (i := 43) rfl
theorem own_w44 : (Jvm.Cond.fieldLink "com/example/librow/librow/TokenIsSymbolPinLaw" (32 : Nat) "com/example/librow/librow/QueryLexer$Kind" "WORD" "Lcom/example/librow/librow/QueryLexer$Kind;") ∈ tables_1 := List.mem_of_getElem? (i := 44) rfl
theorem own_w45 : (Jvm.Cond.initialized "com/example/librow/librow/QueryLexer$Kind") ∈ tables_1 := List.mem_of_getElem? (i := 45) rfl
theorem own_w46 : (Jvm.Cond.laysStatic "com/example/librow/librow/QueryLexer$Kind" "WORD" "Lcom/example/librow/librow/QueryLexer$Kind;") ∈ tables_1 := List.mem_of_getElem? (i := 46) rfl
theorem own_w47 : (Jvm.Cond.methodLink "com/example/librow/librow/TokenIsSymbolPinLaw" (20 : Nat) ({ cls := "com/example/librow/librow/QueryLexer$Token", name := "<init>", desc := "(Lcom/example/librow/librow/QueryLexer$Kind;Ljava/lang/String;II)V" } : Jvm.MethodName)) ∈ tables_1 := List.mem_of_getElem? (i := 47) rfl
theorem own_w48 : (Jvm.Cond.instanceMethod ({ cls := "com/example/librow/librow/QueryLexer$Token", name := "<init>", desc := "(Lcom/example/librow/librow/QueryLexer$Kind;Ljava/lang/String;II)V" } : Jvm.MethodName)) ∈ tables_1 := List.mem_of_getElem? (i := 48) rfl
theorem own_w49 : (Jvm.Cond.code ({ cls := "com/example/librow/librow/QueryLexer$Token", name := "<init>", desc := "(Lcom/example/librow/librow/QueryLexer$Kind;Ljava/lang/String;II)V" } : Jvm.MethodName) prog_11_method_1_code (5 : Nat) (Option.none : Option Jvm.ClassFile.FieldType)) ∈ tables_1 := List.mem_of_getElem? (i := 49) rfl
theorem own_w50 : (Jvm.Cond.methodLink "com/example/librow/librow/QueryLexer$Token" (1 : Nat) ({ cls := "java/lang/Record", name := "<init>", desc := "()V" } : Jvm.MethodName)) ∈ tables_1 := List.mem_of_getElem? (i := 50) rfl
theorem own_w51 : (Jvm.Cond.instanceMethod ({ cls := "java/lang/Record", name := "<init>", desc := "()V" } : Jvm.MethodName)) ∈ tables_1 := List.mem_of_getElem? (i := 51) rfl
theorem own_w53 : (Jvm.Cond.initialized "java/lang/Record") ∈ tables_1 := List.mem_of_getElem? (i := 53) rfl
theorem own_w54 : (Jvm.Cond.code ({ cls := "java/lang/Record", name := "<init>", desc := "()V" } : Jvm.MethodName) jdk_30_method_1_code (1 : Nat) (Option.none : Option Jvm.ClassFile.FieldType)) ∈ tables_1 := List.mem_of_getElem? (i := 54) rfl
theorem own_w55 : (Jvm.Cond.methodLink "java/lang/Record" (1 : Nat) ({ cls := "java/lang/Object", name := "<init>", desc := "()V" } : Jvm.MethodName)) ∈ tables_1 := List.mem_of_getElem? (i := 55) rfl
theorem own_w56 : (Jvm.Cond.fieldLink "com/example/librow/librow/QueryLexer$Token" (7 : Nat) "com/example/librow/librow/QueryLexer$Token" "kind" "Lcom/example/librow/librow/QueryLexer$Kind;") ∈ tables_1 := List.mem_of_getElem? (i := 56) rfl
theorem own_w57 : (Jvm.Cond.laysFinal "com/example/librow/librow/QueryLexer$Token" "com/example/librow/librow/QueryLexer$Token" "kind" "Lcom/example/librow/librow/QueryLexer$Kind;") ∈ tables_1 := List.mem_of_getElem? (i := 57) rfl
theorem own_w58 : (Jvm.Cond.fieldLink "com/example/librow/librow/QueryLexer$Token" (13 : Nat) "com/example/librow/librow/QueryLexer$Token" "text" "Ljava/lang/String;") ∈ tables_1 := List.mem_of_getElem? (i := 58) rfl
theorem own_w59 : (Jvm.Cond.laysFinal "com/example/librow/librow/QueryLexer$Token" "com/example/librow/librow/QueryLexer$Token" "text" "Ljava/lang/String;") ∈ tables_1 := List.mem_of_getElem? (i := 59) rfl
theorem own_w60 : (Jvm.Cond.fieldLink "com/example/librow/librow/QueryLexer$Token" (17 : Nat) "com/example/librow/librow/QueryLexer$Token" "position" "I") ∈ tables_1 := List.mem_of_getElem? (i := 60) rfl
theorem own_w61 : (Jvm.Cond.laysFinal "com/example/librow/librow/QueryLexer$Token" "com/example/librow/librow/QueryLexer$Token" "position" "I") ∈ tables_1 := List.mem_of_getElem? (i := 61) rfl
theorem own_w62 : (Jvm.Cond.fieldLink "com/example/librow/librow/QueryLexer$Token" (21 : Nat) "com/example/librow/librow/QueryLexer$Token" "end" "I") ∈ tables_1 := List.mem_of_getElem? (i := 62) rfl
theorem own_w63 : (Jvm.Cond.laysFinal "com/example/librow/librow/QueryLexer$Token" "com/example/librow/librow/QueryLexer$Token" "end" "I") ∈ tables_1 := List.mem_of_getElem? (i := 63) rfl
theorem own_w64 : (Jvm.Cond.methodLink "com/example/librow/librow/TokenIsSymbolPinLaw" (23 : Nat) ({ cls := "com/example/librow/librow/QueryLexer$Token", name := "isSymbol", desc := "(Ljava/lang/String;)Z" } : Jvm.MethodName)) ∈ tables_1 := List.mem_of_getElem? (i := 64) rfl
theorem own_w65 : (Jvm.Cond.declares ({ cls := "com/example/librow/librow/QueryLexer$Token", name := "isSymbol", desc := "(Ljava/lang/String;)Z" } : Jvm.MethodName)) ∈ tables_1 := List.mem_of_getElem? (i := 65) rfl
theorem own_w66 : (Jvm.Cond.instanceMethod ({ cls := "com/example/librow/librow/QueryLexer$Token", name := "isSymbol", desc := "(Ljava/lang/String;)Z" } : Jvm.MethodName)) ∈ tables_1 := List.mem_of_getElem? (i := 66) rfl
theorem own_w67 : (Jvm.Cond.selects "com/example/librow/librow/QueryLexer$Token" ({ cls := "com/example/librow/librow/QueryLexer$Token", name := "isSymbol", desc := "(Ljava/lang/String;)Z" } : Jvm.MethodName) ({ cls := "com/example/librow/librow/QueryLexer$Token", name := "isSymbol", desc := "(Ljava/lang/String;)Z" } : Jvm.MethodName)) ∈ tables_1 := List.mem_of_getElem? (i := 67) rfl
theorem own_w68 : (Jvm.Cond.code ({ cls := "com/example/librow/librow/QueryLexer$Token", name := "isSymbol", desc := "(Ljava/lang/String;)Z" } : Jvm.MethodName) prog_11_method_3_code (2 : Nat) (Option.some Jvm.ClassFile.FieldType.boolean)) ∈ tables_1 := List.mem_of_getElem? (i := 68) rfl
theorem own_w69 : (Jvm.Cond.fieldLink "com/example/librow/librow/QueryLexer$Token" (35 : Nat) "com/example/librow/librow/QueryLexer$Kind" "SYMBOL" "Lcom/example/librow/librow/QueryLexer$Kind;") ∈ tables_1 := List.mem_of_getElem? (i := 69) rfl
theorem own_w70 : (Jvm.Cond.laysStatic "com/example/librow/librow/QueryLexer$Kind" "SYMBOL" "Lcom/example/librow/librow/QueryLexer$Kind;") ∈ tables_1 := List.mem_of_getElem? (i := 70) rfl
theorem own_w71 : (Jvm.Cond.fieldLink "com/example/librow/librow/TokenIsSymbolPinLaw" (47 : Nat) "com/example/librow/librow/QueryLexer$Kind" "POSITIONAL" "Lcom/example/librow/librow/QueryLexer$Kind;") ∈ tables_1 := List.mem_of_getElem? (i := 71) rfl
theorem own_w72 : (Jvm.Cond.laysStatic "com/example/librow/librow/QueryLexer$Kind" "POSITIONAL" "Lcom/example/librow/librow/QueryLexer$Kind;") ∈ tables_1 := List.mem_of_getElem? (i := 72) rfl
theorem own_w73 : (Jvm.Cond.fieldLink "com/example/librow/librow/TokenIsSymbolPinLaw" (41 : Nat) "com/example/librow/librow/QueryLexer$Kind" "STRING" "Lcom/example/librow/librow/QueryLexer$Kind;") ∈ tables_1 := List.mem_of_getElem? (i := 73) rfl
theorem own_w74 : (Jvm.Cond.laysStatic "com/example/librow/librow/QueryLexer$Kind" "STRING" "Lcom/example/librow/librow/QueryLexer$Kind;") ∈ tables_1 := List.mem_of_getElem? (i := 74) rfl
theorem own_w75 : (Jvm.Cond.fieldLink "com/example/librow/librow/TokenIsSymbolPinLaw" (38 : Nat) "com/example/librow/librow/QueryLexer$Kind" "NUMBER" "Lcom/example/librow/librow/QueryLexer$Kind;") ∈ tables_1 := List.mem_of_getElem? (i := 75) rfl
theorem own_w76 : (Jvm.Cond.laysStatic "com/example/librow/librow/QueryLexer$Kind" "NUMBER" "Lcom/example/librow/librow/QueryLexer$Kind;") ∈ tables_1 := List.mem_of_getElem? (i := 76) rfl
theorem own_w77 : (Jvm.Cond.fieldLink "com/example/librow/librow/TokenIsSymbolPinLaw" (44 : Nat) "com/example/librow/librow/QueryLexer$Kind" "NAMED" "Lcom/example/librow/librow/QueryLexer$Kind;") ∈ tables_1 := List.mem_of_getElem? (i := 77) rfl
theorem own_w78 : (Jvm.Cond.laysStatic "com/example/librow/librow/QueryLexer$Kind" "NAMED" "Lcom/example/librow/librow/QueryLexer$Kind;") ∈ tables_1 := List.mem_of_getElem? (i := 78) rfl
theorem own_w79 : (Jvm.Cond.fieldLink "com/example/librow/librow/TokenIsSymbolPinLaw" (53 : Nat) "com/example/librow/librow/QueryLexer$Kind" "END" "Lcom/example/librow/librow/QueryLexer$Kind;") ∈ tables_1 := List.mem_of_getElem? (i := 79) rfl
theorem own_w80 : (Jvm.Cond.laysStatic "com/example/librow/librow/QueryLexer$Kind" "END" "Lcom/example/librow/librow/QueryLexer$Kind;") ∈ tables_1 := List.mem_of_getElem? (i := 80) rfl
theorem own_w81 : (Jvm.Cond.fieldLink "com/example/librow/librow/TokenIsSymbolPinLaw" (50 : Nat) "com/example/librow/librow/QueryLexer$Kind" "SYMBOL" "Lcom/example/librow/librow/QueryLexer$Kind;") ∈ tables_1 := List.mem_of_getElem? (i := 81) rfl
theorem own_w82 : (Jvm.Cond.methodLink "com/example/librow/librow/QueryLexer$Token" (38 : Nat) ({ cls := "java/lang/String", name := "equals", desc := "(Ljava/lang/Object;)Z" } : Jvm.MethodName)) ∈ tables_1 := List.mem_of_getElem? (i := 82) rfl
theorem own_w83 : (Jvm.Cond.declares ({ cls := "java/lang/String", name := "equals", desc := "(Ljava/lang/Object;)Z" } : Jvm.MethodName)) ∈ tables_1 := List.mem_of_getElem? (i := 83) rfl
theorem own_w84 : (Jvm.Cond.instanceMethod ({ cls := "java/lang/String", name := "equals", desc := "(Ljava/lang/Object;)Z" } : Jvm.MethodName)) ∈ tables_1 := List.mem_of_getElem? (i := 84) rfl
theorem own_w85 : (Jvm.Cond.selects "java/lang/String" ({ cls := "java/lang/String", name := "equals", desc := "(Ljava/lang/Object;)Z" } : Jvm.MethodName) ({ cls := "java/lang/String", name := "equals", desc := "(Ljava/lang/Object;)Z" } : Jvm.MethodName)) ∈ tables_1 := List.mem_of_getElem? (i := 85) rfl
theorem own_d_jdk_42_method_149_code_0 : decode jdk_42_method_149_code 0 = .ok (.aload_n 0, 1) := by decide +kernel
theorem own_d_jdk_42_method_149_code_1 : decode jdk_42_method_149_code 1 = .ok (.invokespecial 1, 3) := by decide +kernel
theorem own_d_jdk_42_method_149_code_4 : decode jdk_42_method_149_code 4 = .ok (.iload_n 3, 1) := by decide +kernel
theorem own_d_jdk_42_method_149_code_5 : decode jdk_42_method_149_code 5 = .ok (.ifCond .ne 22, 3) := by decide +kernel
theorem own_d_jdk_42_method_149_code_8 : decode jdk_42_method_149_code 8 = .ok (.aload_n 0, 1) := by decide +kernel
theorem own_d_jdk_42_method_149_code_9 : decode jdk_42_method_149_code 9 = .ok (.ldc 7, 2) := by decide +kernel
theorem own_d_jdk_42_method_149_code_11 : decode jdk_42_method_149_code 11 = .ok (.getfield 9, 3) := by decide +kernel
theorem own_d_jdk_42_method_149_code_14 : decode jdk_42_method_149_code 14 = .ok (.putfield 9, 3) := by decide +kernel
theorem own_d_jdk_42_method_149_code_17 : decode jdk_42_method_149_code 17 = .ok (.aload_n 0, 1) := by decide +kernel
theorem own_d_jdk_42_method_149_code_18 : decode jdk_42_method_149_code 18 = .ok (.ldc 7, 2) := by decide +kernel
theorem own_d_jdk_42_method_149_code_20 : decode jdk_42_method_149_code 20 = .ok (.getfield 15, 3) := by decide +kernel
theorem own_d_jdk_42_method_149_code_23 : decode jdk_42_method_149_code 23 = .ok (.putfield 15, 3) := by decide +kernel
theorem own_d_jdk_42_method_149_code_26 : decode jdk_42_method_149_code 26 = .ok (.return_, 1) := by decide +kernel
theorem own_d_jdk_42_method_3_code_0 : decode jdk_42_method_3_code 0 = .ok (.aload_n 0, 1) := by decide +kernel
theorem own_d_jdk_42_method_3_code_1 : decode jdk_42_method_3_code 1 = .ok (.aload_n 1, 1) := by decide +kernel
theorem own_d_jdk_42_method_3_code_2 : decode jdk_42_method_3_code 2 = .ok (.iconst 0, 1) := by decide +kernel
theorem own_d_jdk_42_method_3_code_3 : decode jdk_42_method_3_code 3 = .ok (.aload_n 1, 1) := by decide +kernel
theorem own_d_jdk_42_method_3_code_4 : decode jdk_42_method_3_code 4 = .ok (.arraylength, 1) := by decide +kernel
theorem own_d_jdk_42_method_3_code_5 : decode jdk_42_method_3_code 5 = .ok (.aconst_null, 1) := by decide +kernel
theorem own_d_jdk_42_method_3_code_6 : decode jdk_42_method_3_code 6 = .ok (.invokespecial 27, 3) := by decide +kernel
theorem own_d_jdk_42_method_3_code_9 : decode jdk_42_method_3_code 9 = .ok (.return_, 1) := by decide +kernel
theorem own_d_method_3_code_0 : decode method_3_code 0 = .ok (.iload_n 0, 1) := by decide +kernel
theorem own_d_method_3_code_1 : decode method_3_code 1 = .ok (.ifCond .ne 14, 3) := by decide +kernel
theorem own_d_method_3_code_4 : decode method_3_code 4 = .ok (.new 27, 3) := by decide +kernel
theorem own_d_method_3_code_7 : decode method_3_code 7 = .ok (.dup, 1) := by decide +kernel
theorem own_d_method_3_code_8 : decode method_3_code 8 = .ok (.iconst 0, 1) := by decide +kernel
theorem own_d_method_3_code_9 : decode method_3_code 9 = .ok (.newarray .char, 2) := by decide +kernel
theorem own_d_method_3_code_11 : decode method_3_code 11 = .ok (.invokespecial 29, 3) := by decide +kernel
theorem own_d_method_3_code_14 : decode method_3_code 14 = .ok (.areturn, 1) := by decide +kernel
theorem own_d_method_3_code_15 : decode method_3_code 15 = .ok (.iload_n 0, 1) := by decide +kernel
theorem own_d_method_3_code_16 : decode method_3_code 16 = .ok (.iconst 1, 1) := by decide +kernel
theorem own_d_method_3_code_17 : decode method_3_code 17 = .ok (.if_icmp .ne 18, 3) := by decide +kernel
theorem own_d_method_3_code_20 : decode method_3_code 20 = .ok (.new 27, 3) := by decide +kernel
theorem own_d_method_3_code_23 : decode method_3_code 23 = .ok (.dup, 1) := by decide +kernel
theorem own_d_method_3_code_24 : decode method_3_code 24 = .ok (.iconst 1, 1) := by decide +kernel
theorem own_d_method_3_code_25 : decode method_3_code 25 = .ok (.newarray .char, 2) := by decide +kernel
theorem own_d_method_3_code_27 : decode method_3_code 27 = .ok (.dup, 1) := by decide +kernel
theorem own_d_method_3_code_28 : decode method_3_code 28 = .ok (.iconst 0, 1) := by decide +kernel
theorem own_d_method_3_code_29 : decode method_3_code 29 = .ok (.iload_n 1, 1) := by decide +kernel
theorem own_d_method_3_code_30 : decode method_3_code 30 = .ok (.castore, 1) := by decide +kernel
theorem own_d_method_3_code_31 : decode method_3_code 31 = .ok (.invokespecial 29, 3) := by decide +kernel
theorem own_d_method_3_code_34 : decode method_3_code 34 = .ok (.areturn, 1) := by decide +kernel
theorem own_d_method_3_code_35 : decode method_3_code 35 = .ok (.new 27, 3) := by decide +kernel
theorem own_d_method_3_code_38 : decode method_3_code 38 = .ok (.dup, 1) := by decide +kernel
theorem own_d_method_3_code_39 : decode method_3_code 39 = .ok (.iconst 2, 1) := by decide +kernel
theorem own_d_method_3_code_40 : decode method_3_code 40 = .ok (.newarray .char, 2) := by decide +kernel
theorem own_d_method_3_code_42 : decode method_3_code 42 = .ok (.dup, 1) := by decide +kernel
theorem own_d_method_3_code_43 : decode method_3_code 43 = .ok (.iconst 0, 1) := by decide +kernel
theorem own_d_method_3_code_44 : decode method_3_code 44 = .ok (.iload_n 1, 1) := by decide +kernel
theorem own_d_method_3_code_45 : decode method_3_code 45 = .ok (.castore, 1) := by decide +kernel
theorem own_d_method_3_code_46 : decode method_3_code 46 = .ok (.dup, 1) := by decide +kernel
theorem own_d_method_3_code_47 : decode method_3_code 47 = .ok (.iconst 1, 1) := by decide +kernel
theorem own_d_method_3_code_48 : decode method_3_code 48 = .ok (.iload_n 2, 1) := by decide +kernel
theorem own_d_method_3_code_49 : decode method_3_code 49 = .ok (.castore, 1) := by decide +kernel
theorem own_d_method_3_code_50 : decode method_3_code 50 = .ok (.invokespecial 29, 3) := by decide +kernel
theorem own_d_method_3_code_53 : decode method_3_code 53 = .ok (.areturn, 1) := by decide +kernel
theorem own_d_method_4_code_0 : decode method_4_code 0 = .ok (.iload_n 0, 1) := by decide +kernel
theorem own_d_method_4_code_1 : decode method_4_code 1 = .ok (.ifCond .ne 7, 3) := by decide +kernel
theorem own_d_method_4_code_4 : decode method_4_code 4 = .ok (.getstatic 32, 3) := by decide +kernel
theorem own_d_method_4_code_7 : decode method_4_code 7 = .ok (.areturn, 1) := by decide +kernel
theorem own_d_method_4_code_8 : decode method_4_code 8 = .ok (.iload_n 0, 1) := by decide +kernel
theorem own_d_method_4_code_9 : decode method_4_code 9 = .ok (.iconst 1, 1) := by decide +kernel
theorem own_d_method_4_code_10 : decode method_4_code 10 = .ok (.if_icmp .ne 7, 3) := by decide +kernel
theorem own_d_method_4_code_13 : decode method_4_code 13 = .ok (.getstatic 38, 3) := by decide +kernel
theorem own_d_method_4_code_16 : decode method_4_code 16 = .ok (.areturn, 1) := by decide +kernel
theorem own_d_method_4_code_17 : decode method_4_code 17 = .ok (.iload_n 0, 1) := by decide +kernel
theorem own_d_method_4_code_18 : decode method_4_code 18 = .ok (.iconst 2, 1) := by decide +kernel
theorem own_d_method_4_code_19 : decode method_4_code 19 = .ok (.if_icmp .ne 7, 3) := by decide +kernel
theorem own_d_method_4_code_22 : decode method_4_code 22 = .ok (.getstatic 41, 3) := by decide +kernel
theorem own_d_method_4_code_25 : decode method_4_code 25 = .ok (.areturn, 1) := by decide +kernel
theorem own_d_method_4_code_26 : decode method_4_code 26 = .ok (.iload_n 0, 1) := by decide +kernel
theorem own_d_method_4_code_27 : decode method_4_code 27 = .ok (.iconst 3, 1) := by decide +kernel
theorem own_d_method_4_code_28 : decode method_4_code 28 = .ok (.if_icmp .ne 7, 3) := by decide +kernel
theorem own_d_method_4_code_31 : decode method_4_code 31 = .ok (.getstatic 44, 3) := by decide +kernel
theorem own_d_method_4_code_34 : decode method_4_code 34 = .ok (.areturn, 1) := by decide +kernel
theorem own_d_method_4_code_35 : decode method_4_code 35 = .ok (.iload_n 0, 1) := by decide +kernel
theorem own_d_method_4_code_36 : decode method_4_code 36 = .ok (.iconst 4, 1) := by decide +kernel
theorem own_d_method_4_code_37 : decode method_4_code 37 = .ok (.if_icmp .ne 7, 3) := by decide +kernel
theorem own_d_method_4_code_40 : decode method_4_code 40 = .ok (.getstatic 47, 3) := by decide +kernel
theorem own_d_method_4_code_43 : decode method_4_code 43 = .ok (.areturn, 1) := by decide +kernel
theorem own_d_method_4_code_44 : decode method_4_code 44 = .ok (.iload_n 0, 1) := by decide +kernel
theorem own_d_method_4_code_45 : decode method_4_code 45 = .ok (.iconst 5, 1) := by decide +kernel
theorem own_d_method_4_code_46 : decode method_4_code 46 = .ok (.if_icmp .ne 7, 3) := by decide +kernel
theorem own_d_method_4_code_49 : decode method_4_code 49 = .ok (.getstatic 50, 3) := by decide +kernel
theorem own_d_method_4_code_52 : decode method_4_code 52 = .ok (.areturn, 1) := by decide +kernel
theorem own_d_method_4_code_53 : decode method_4_code 53 = .ok (.getstatic 53, 3) := by decide +kernel
theorem own_d_method_4_code_56 : decode method_4_code 56 = .ok (.areturn, 1) := by decide +kernel
theorem own_d_jdk_30_method_1_code_0 : decode jdk_30_method_1_code 0 = .ok (.aload_n 0, 1) := by decide +kernel
theorem own_d_jdk_30_method_1_code_1 : decode jdk_30_method_1_code 1 = .ok (.invokespecial 1, 3) := by decide +kernel
theorem own_d_jdk_30_method_1_code_4 : decode jdk_30_method_1_code 4 = .ok (.return_, 1) := by decide +kernel
theorem own_d_prog_11_method_1_code_0 : decode prog_11_method_1_code 0 = .ok (.aload_n 0, 1) := by decide +kernel
theorem own_d_prog_11_method_1_code_1 : decode prog_11_method_1_code 1 = .ok (.invokespecial 1, 3) := by decide +kernel
theorem own_d_prog_11_method_1_code_4 : decode prog_11_method_1_code 4 = .ok (.aload_n 0, 1) := by decide +kernel
theorem own_d_prog_11_method_1_code_5 : decode prog_11_method_1_code 5 = .ok (.aload_n 1, 1) := by decide +kernel
theorem own_d_prog_11_method_1_code_6 : decode prog_11_method_1_code 6 = .ok (.putfield 7, 3) := by decide +kernel
theorem own_d_prog_11_method_1_code_9 : decode prog_11_method_1_code 9 = .ok (.aload_n 0, 1) := by decide +kernel
theorem own_d_prog_11_method_1_code_10 : decode prog_11_method_1_code 10 = .ok (.aload_n 2, 1) := by decide +kernel
theorem own_d_prog_11_method_1_code_11 : decode prog_11_method_1_code 11 = .ok (.putfield 13, 3) := by decide +kernel
theorem own_d_prog_11_method_1_code_14 : decode prog_11_method_1_code 14 = .ok (.aload_n 0, 1) := by decide +kernel
theorem own_d_prog_11_method_1_code_15 : decode prog_11_method_1_code 15 = .ok (.iload_n 3, 1) := by decide +kernel
theorem own_d_prog_11_method_1_code_16 : decode prog_11_method_1_code 16 = .ok (.putfield 17, 3) := by decide +kernel
theorem own_d_prog_11_method_1_code_19 : decode prog_11_method_1_code 19 = .ok (.aload_n 0, 1) := by decide +kernel
theorem own_d_prog_11_method_1_code_20 : decode prog_11_method_1_code 20 = .ok (.iload 4, 2) := by decide +kernel
theorem own_d_prog_11_method_1_code_22 : decode prog_11_method_1_code 22 = .ok (.putfield 21, 3) := by decide +kernel
theorem own_d_prog_11_method_1_code_25 : decode prog_11_method_1_code 25 = .ok (.return_, 1) := by decide +kernel
theorem own_d_prog_11_method_3_code_0 : decode prog_11_method_3_code 0 = .ok (.aload_n 0, 1) := by decide +kernel
theorem own_d_prog_11_method_3_code_1 : decode prog_11_method_3_code 1 = .ok (.getfield 7, 3) := by decide +kernel
theorem own_d_prog_11_method_3_code_4 : decode prog_11_method_3_code 4 = .ok (.getstatic 35, 3) := by decide +kernel
theorem own_d_prog_11_method_3_code_7 : decode prog_11_method_3_code 7 = .ok (.if_acmp .ne 18, 3) := by decide +kernel
theorem own_d_prog_11_method_3_code_25 : decode prog_11_method_3_code 25 = .ok (.iconst 0, 1) := by decide +kernel
theorem own_d_prog_11_method_3_code_26 : decode prog_11_method_3_code 26 = .ok (.ireturn, 1) := by decide +kernel
theorem own_d_prog_11_method_3_code_10 : decode prog_11_method_3_code 10 = .ok (.aload_n 0, 1) := by decide +kernel
theorem own_d_prog_11_method_3_code_11 : decode prog_11_method_3_code 11 = .ok (.getfield 13, 3) := by decide +kernel
theorem own_d_prog_11_method_3_code_14 : decode prog_11_method_3_code 14 = .ok (.aload_n 1, 1) := by decide +kernel
theorem own_d_prog_11_method_3_code_15 : decode prog_11_method_3_code 15 = .ok (.invokevirtual 38, 3) := by decide +kernel
theorem own_d_prog_11_method_3_code_18 : decode prog_11_method_3_code 18 = .ok (.ifCond .eq 7, 3) := by decide +kernel
theorem own_d_prog_11_method_3_code_21 : decode prog_11_method_3_code 21 = .ok (.iconst 1, 1) := by decide +kernel
theorem own_d_prog_11_method_3_code_22 : decode prog_11_method_3_code 22 = .ok (.goto 4, 3) := by decide +kernel
theorem own_pd0 : parseMethodDescriptor "([CIILjava/lang/Void;)V" = some ⟨[(.array .char), .int, .int, (.object "java/lang/Void")], none⟩ := by decide +kernel
theorem own_pd1 : parseMethodDescriptor "([C)V" = some ⟨[(.array .char)], none⟩ := by decide +kernel
theorem own_pd2 : parseMethodDescriptor "()V" = some ⟨[], none⟩ := by decide +kernel
theorem own_pd3 : parseMethodDescriptor "(Ljava/lang/Object;)Z" = some ⟨[(.object "java/lang/Object")], some .boolean⟩ := by decide +kernel
theorem own_pd4 : parseMethodDescriptor "(ICC)Ljava/lang/String;" = some ⟨[.int, .char, .char], some (.object "java/lang/String")⟩ := by decide +kernel
theorem own_pd5 : parseMethodDescriptor "(I)Lcom/example/librow/librow/QueryLexer$Kind;" = some ⟨[.int], some (.object "com/example/librow/librow/QueryLexer$Kind")⟩ := by decide +kernel
theorem own_pd6 : parseMethodDescriptor "(Lcom/example/librow/librow/QueryLexer$Kind;Ljava/lang/String;II)V" = some ⟨[(.object "com/example/librow/librow/QueryLexer$Kind"), (.object "java/lang/String"), .int, .int], none⟩ := by decide +kernel
theorem own_pd7 : parseMethodDescriptor "(Ljava/lang/String;)Z" = some ⟨[(.object "java/lang/String")], some .boolean⟩ := by decide +kernel
theorem own_pn0 : plainName "java/lang/String" = true := by first | (simp [plainName, overriddenIn]; done) | decide +kernel
theorem own_pn1 : plainName "com/example/librow/librow/TokenIsSymbolPinLaw" = true := by first | (simp [plainName, overriddenIn]; done) | decide +kernel
theorem own_pn2 : plainName "java/lang/Record" = true := by first | (simp [plainName, overriddenIn]; done) | decide +kernel
theorem own_pn3 : plainName "com/example/librow/librow/QueryLexer$Token" = true := by first | (simp [plainName, overriddenIn]; done) | decide +kernel
section OwnKit
variable {p : Program} {l : Launch} {e : Env} {R : Room} {s : State} {m : MethodId} {args : Array Value} {below : List Frame} {meth : Method} {c : Code} {T : State} {locs : List Loc} {cells slots : Nat} {Z : State} {h h1 h2 : Heap}
def own_Fin (p : Program) (e : Env) (below : List Frame) (S : State) (P : State → Outcome → Prop) : Prop := ∃ U o, Steps p.tables e below S U ∧ U.status = .running ∧ Ended U below o ∧ P U o
theorem own_st {S S' : State} {P : State → Outcome → Prop} (st : ∀ t, Steps p.tables e below S' t → Steps p.tables e below S t) (k : own_Fin p e below S' P) : own_Fin p e below S P := by
  obtain ⟨U, o, q, r⟩ := k; exact ⟨U, o, st _ q, r⟩
theorem own_tr {S S' : State} {P : State → Outcome → Prop} (st : Steps p.tables e below S S') (k : own_Fin p e below S' P) : own_Fin p e below S P := by
  obtain ⟨U, o, q, r⟩ := k; exact ⟨U, o, st.trans q, r⟩
def own_End (s : State) (Q : Option Value → Heap → List Loc → Prop) (k n : Nat) (U : State) (o : Outcome) : Prop := ∃ v L, o = .returned v ∧ Q v U.heap L ∧ FrameEnd s o U L k n
theorem own_ret (X : Stand p l e R s m args below meth c T locs cells slots) (hx : p.tables.exec = Jvm.exec) {pc : Nat} {Ls : Array Slot} {w : Value} {t : FieldType} {i : Instr} {rest : List Value} (hret : meth.sig.returnType = some t) (hlk : meth.locks = false) (hn : narrow t w = w)
    (hi : (i = .ireturn ∧ (t = .int ∨ t = .boolean ∨ t = .byte ∨ t = .char ∨ t = .short) ∧ ∃ z, w = .int z) ∨ (i = .lreturn ∧ t = .long ∧ ∃ z, w = .long z) ∨ (i = .dreturn ∧ t = .double ∧ ∃ z, w = .double z) ∨ (i = .freturn ∧ t = .float ∧ ∃ z, w = .float z) ∨ (i = .areturn ∧ t.isReference = true ∧ w.isRef = true))
    (hd : decode c.code pc = .ok (i, 1)) {Q : Option Value → Heap → List Loc → Prop} {k n : Nat} (hk : cells ≤ k) (hs : slots ≤ n) (hq : Q (some w) T.heap locs) : own_Fin p e below (T.setTop (mkF m pc Ls (w :: rest))) (own_End s Q k n) := by
  obtain ⟨fs, hr, hrun, hended, hW, hsame⟩ := X.leave (v := some w) (fun q => by rw [hret] at q; cases q) hlk
  exact ⟨_, _, retOut X hx hret hn hi hd hr, hrun, hended, _, _, rfl, hq, ⟨_, rfl⟩, hW, hsame.mono hk hs⟩
theorem own_ret0 (X : Stand p l e R s m args below meth c T locs cells slots) (hx : p.tables.exec = Jvm.exec) {pc : Nat} {Ls : Array Slot} (hret : meth.sig.returnType = none) (hlk : meth.locks = false)
    (hd : decode c.code pc = .ok (.return_, 1)) {Q : Option Value → Heap → List Loc → Prop} {k n : Nat} (hk : cells ≤ k) (hs : slots ≤ n) (hq : Q none T.heap locs) : own_Fin p e below (T.setTop (mkF m pc Ls [])) (own_End s Q k n) := by
  obtain ⟨fs, hr, hrun, hended, hW, hsame⟩ := X.leave (v := none) (fun _ => rfl) hlk
  exact ⟨_, _, X.returnOut hx hret hd hr, hrun, hended, _, _, rfl, hq, ⟨_, rfl⟩, hW, hsame.mono hk hs⟩
def own_EndW (s : State) (Q : Option Value → Heap → Vm → List Loc → Prop) (k n : Nat) (U : State) (o : Outcome) : Prop := ∃ v L, o = .returned v ∧ Q v U.heap U.vm L ∧ ReturnedEndW s o U L k n
theorem own_xr (h : Heap) : Ext h h := ⟨Nat.le_refl _, fun _ _ q => q⟩
theorem own_xt (E : Ext h h1) (F : Ext h1 h2) : Ext h h2 := ⟨Nat.le_trans E.1 F.1, fun a c q => F.2 a c (E.2 a c q)⟩
theorem own_xw {a : Addr} {sl : Nat} {v : Value} (E : Ext h h1) (W : Wr h1 h2 a sl v) (q : h.size ≤ a) : Ext h h2 :=
  ⟨Nat.le_trans E.1 (Nat.le_of_eq W.size.symm), fun b c hb => by
    obtain ⟨c', e1, -, -, -, e5, -⟩ := wr_at W (E.2 b c hb)
    have ne : b ≠ a := Nat.ne_of_lt (Nat.lt_of_lt_of_le (Array.getElem?_eq_some_iff.mp hb).1 q)
    rw [← e5 ne]; exact e1⟩
theorem own_xk {ws : List Addr} (E : Ext h h1) (K : Keep h1 h2 ws) (q : ∀ x ∈ ws, h.size ≤ x) : Ext h h2 :=
  ⟨Nat.le_trans E.1 K.1, fun b c hb => K.2.1 b c (E.2 b c hb) fun z => absurd (Array.getElem?_eq_some_iff.mp hb).1 (Nat.not_lt.mpr (q b z))⟩
theorem own_kx (E : Ext h h1) (ws : List Addr) : Keep h h1 ws := ⟨E.1, fun a c q _ => E.2 a c q, fun a c q => ⟨c, E.2 a c q, rfl, rfl, rfl⟩⟩
theorem own_slot {v w : Value} (q : v = w) : Slot.val v = Slot.val w := by rw [q]
end OwnKit

section OwnKitW
variable {p : Program} {l : Launch} {e : Env} {R : Room} {s : State} {m : MethodId} {args : Array Value} {below : List Frame} {meth : Method} {c : Code} {T : State} {locs : List Loc} {cells slots : Nat} {Z : State} {h h1 h2 : Heap}
theorem own_retNW (X : Stand p l e R s m args below meth c T locs cells slots) (hx : p.tables.exec = Jvm.exec) {pc : Nat} {Ls : Array Slot} {w : Value} {t : FieldType} {i : Instr} {rest : List Value} (hret : meth.sig.returnType = some t) (hlk : meth.locks = false) (hn : narrow t w = w)
    (hi : (i = .ireturn ∧ (t = .int ∨ t = .boolean ∨ t = .byte ∨ t = .char ∨ t = .short) ∧ ∃ z, w = .int z) ∨ (i = .lreturn ∧ t = .long ∧ ∃ z, w = .long z) ∨ (i = .dreturn ∧ t = .double ∧ ∃ z, w = .double z) ∨ (i = .freturn ∧ t = .float ∧ ∃ z, w = .float z) ∨ (i = .areturn ∧ t.isReference = true ∧ w.isRef = true))
    (hd : decode c.code pc = .ok (i, 1)) {Q : Option Value → Heap → Vm → List Loc → Prop} {k n : Nat} (hk : cells ≤ k) (hs : slots ≤ n) (hq : Q (some w) T.heap T.vm locs) : own_Fin p e below (T.setTop (mkF m pc Ls (w :: rest))) (own_EndW s Q k n) := by
  obtain ⟨fs, hr, hrun, hended, hW, hsame⟩ := X.leave (v := some w) (fun q => by rw [hret] at q; cases q) hlk
  exact ⟨_, _, retOut X hx hret hn hi hd hr, hrun, hended, _, _, rfl, hq, ReturnedEndW.of_narrow ⟨_, rfl⟩ hW (hsame.mono hk hs)⟩
theorem own_retW {vm1 : Vm} (X : Stand p l e R (s.setVm vm1) m args below meth c T locs cells slots) (hx : p.tables.exec = Jvm.exec) {n1 : Nat} (hS : s.Since vm1 n1) (hn1 : n1 ≤ T.heap.size) {pc : Nat} {Ls : Array Slot} {w : Value} {t : FieldType} {i : Instr} {rest : List Value} (hret : meth.sig.returnType = some t) (hlk : meth.locks = false) (hn : narrow t w = w)
    (hi : (i = .ireturn ∧ (t = .int ∨ t = .boolean ∨ t = .byte ∨ t = .char ∨ t = .short) ∧ ∃ z, w = .int z) ∨ (i = .lreturn ∧ t = .long ∧ ∃ z, w = .long z) ∨ (i = .dreturn ∧ t = .double ∧ ∃ z, w = .double z) ∨ (i = .freturn ∧ t = .float ∧ ∃ z, w = .float z) ∨ (i = .areturn ∧ t.isReference = true ∧ w.isRef = true))
    (hd : decode c.code pc = .ok (i, 1)) {Q : Option Value → Heap → Vm → List Loc → Prop} {k n : Nat} (hk : cells ≤ k) (hs : slots ≤ n) (hq : Q (some w) T.heap T.vm locs) : own_Fin p e below (T.setTop (mkF m pc Ls (w :: rest))) (own_EndW s Q k n) := by
  obtain ⟨fs, hr, hrun, hended, ⟨v, hv⟩, a, b, c'⟩ := X.leaveW hS hn1 (v := some w) (fun q => by rw [hret] at q; cases q) hlk
  exact ⟨_, _, retOut X hx hret hn hi hd hr, hrun, hended, _, _, rfl, hq, ⟨v, hv⟩, a, b, c'.mono hk hs⟩
theorem own_ret0W {vm1 : Vm} (X : Stand p l e R (s.setVm vm1) m args below meth c T locs cells slots) (hx : p.tables.exec = Jvm.exec) {n1 : Nat} (hS : s.Since vm1 n1) (hn1 : n1 ≤ T.heap.size) {pc : Nat} {Ls : Array Slot} (hret : meth.sig.returnType = none) (hlk : meth.locks = false)
    (hd : decode c.code pc = .ok (.return_, 1)) {Q : Option Value → Heap → Vm → List Loc → Prop} {k n : Nat} (hk : cells ≤ k) (hs : slots ≤ n) (hq : Q none T.heap T.vm locs) : own_Fin p e below (T.setTop (mkF m pc Ls [])) (own_EndW s Q k n) := by
  obtain ⟨fs, hr, hrun, hended, ⟨v, hv⟩, a, b, c'⟩ := X.leaveW hS hn1 (v := none) (fun _ => rfl) hlk
  exact ⟨_, _, X.returnOut hx hret hd hr, hrun, hended, _, _, rfl, hq, ⟨v, hv⟩, a, b, c'.mono hk hs⟩
end OwnKitW

section OwnStr
variable {p : Program} {l : Launch} {e : Env} {R : Room} {s : State} {args : Array Value} {below : List Frame} {len W : Nat} {Z : State} {a0 : Array Value} {h h' : Heap} {x y : Addr} {cs ds : List Int32} {z : Int32}
def own_Str (Z : State) (h : Heap) (x : Addr) (cs : List Int32) : Prop := ∃ (t : Addr) (kb : ClassId) (cd N : Int32) (vs : List Value), Exa Z h x "java/lang/String" ∧ Fld Z h x "java/lang/String" "value" "[B" (.ref t) ∧ Fld Z h x "java/lang/String" "coder" "B" (.int cd) ∧ Arv Z h t kb .byte N vs (.int 0) ∧ StrChars.Road.CodA cs cd N vs ∧ (∀ c ∈ cs, ¬ c < 0 ∧ ¬ (65535 : Int32) < c) ∧ cs.length ≤ 4000
theorem own_Str.ext (F : own_Str Z h x cs) (E : Ext h h') : own_Str Z h' x cs := by
  obtain ⟨t, kb, cd, N, vs, q1, q2, q3, q4, r⟩ := F; exact ⟨t, kb, cd, N, vs, q1.ext E, q2.ext E, q3.ext E, q4.ext E, r⟩
theorem own_Str.exa (F : own_Str Z h x cs) : Exa Z h x "java/lang/String" := by obtain ⟨t, kb, cd, N, vs, q1, -⟩ := F; exact q1
theorem own_Str.lt (F : own_Str Z h x cs) : x < h.size := F.exa.lt


theorem own_newB (hZ : Z.Warmed39 s.vm) (hw : ∀ d ∈ tables_1, d.before a0 Z = true) {b : Addr} {kC : ClassId} {d v0 c0 : Value} {N : Int32} {n n0 : Nat} (hx0 : n0 ≤ x) (hh0 : n0 ≤ h.size) (E : Exa Z h x "java/lang/String") (V : Fld Z h x "java/lang/String" "value" "[B" v0) (C : Fld Z h x "java/lang/String" "coder" "B" c0) (K : Arv Z h b kC .char N (cs.map Value.int) d) (S : Sta Z h "java/lang/String" "COMPACT_STRINGS" "Z" (.int z)) (hz : ¬ z = 0)
    (hn : cs.length = n) (hN : N = Int32.ofNat n) (l0 : 0 < n) (l2 : n ≤ 4000) (hp : ∀ c ∈ cs, ¬ c < 0 ∧ ¬ (255 : Int32) < c) (hfr : 4 ≤ R.frames) (hlo : W + 65 ≤ R.locals) :
    Back l R p e below s args (⟨"java/lang/String", "<init>", "([C)V"⟩ : MethodName) len W (fun P a => a = #[.ref x, .ref b] ∧ P.U.heap = h ∧ P.cells + 1 ≤ R.cells ∧ P.slots + n ≤ R.slots)
      (fun P _ v B => ∃ L, (v = none ∧ Fr n0 L ∧ Keep h B.U.heap [x] ∧ own_Str Z B.U.heap x cs) ∧ B.locs = P.locs ++ L ∧ B.cells = P.cells + 1 ∧ B.slots = P.slots + n) := by
  intro m meth c A g ig mk a X hg hsize hdg hW hnm hpre
  obtain ⟨v, B, X', ⟨L, ⟨q1, q2, q3, q4, q5, t, kb, q6, q7, q8, q9, q10⟩, r⟩, hst⟩ := StrChars.Road.backV hZ (fun d hd => hw d ((by decide +kernel : ∀ d ∈ StrChars.Road.words, d ∈ tables_1) d hd)) (hw _ own_w6) hx0 hh0 E V C K S hz hn hN l0 l2 hp rfl hfr hlo m meth c A g ig mk a X hg hsize hdg hW hnm hpre
  subst hN
  exact ⟨v, B, X', ⟨L, ⟨q1, q2, q3, t, kb, 0, _, _, q4, q9, q5, q10, StrChars.Road.codOf hn (fun c hc => (hp c hc).2), fun c hc => ⟨(hp c hc).1, fun q => (hp c hc).2 (Int32.lt_trans (by decide) q)⟩, by omega⟩, r⟩, hst⟩


theorem own_eqB (hZ : Z.Warmed39 s.vm) (hw : ∀ d ∈ tables_1, d.before a0 Z = true) (A : own_Str Z h x cs) (B : own_Str Z h y ds) (S : Sta Z h "java/lang/String" "COMPACT_STRINGS" "Z" (.int z)) (hz : ¬ z = 0) (hfr : 2 ≤ R.frames) (hlo : W + 28 ≤ R.locals) :
    Back l R p e below s args (⟨"java/lang/String", "equals", "(Ljava/lang/Object;)Z"⟩ : MethodName) len W (fun P a => a = #[.ref x, .ref y] ∧ P.U.heap = h ∧ P.cells + 0 ≤ R.cells ∧ P.slots + 0 ≤ R.slots)
      (fun P _ v B => ∃ L, (((v = some (.int 1) ∧ cs = ds) ∨ (v = some (.int 0) ∧ ¬ cs = ds)) ∧ L = [] ∧ B.U.heap = h) ∧ B.locs = P.locs ++ L ∧ B.cells = P.cells + 0 ∧ B.slots = P.slots + 0) := by
  obtain ⟨t, kb, cd, N, vs, q1, q2, q3, q4, q5, q6, q7⟩ := A
  obtain ⟨t', kb', cd', N', vs', r1, r2, r3, r4, r5, r6, r7⟩ := B
  exact StrChars.Road.eqW hZ (fun d hd => hw d ((by decide +kernel : ∀ d ∈ StrChars.Road.wordsEq, d ∈ tables_1) d hd)) (hw _ own_w6) q1 q2 q3 q4 q5 q6 q7 r1 r2 r3 r4 r5 r6 r7 S hz hfr hlo

end OwnStr
theorem own_pickY {v : Option Value} {P : Prop} (h : (v = some (.int 1) ∧ P) ∨ (v = some (.int 0) ∧ ¬ P)) (q : P) : v = some (.int 1) ∧ True := ⟨h.elim (fun r => r.1) fun r => absurd q r.2, trivial⟩
theorem own_pickN {v : Option Value} {P : Prop} (h : (v = some (.int 1) ∧ P) ∨ (v = some (.int 0) ∧ ¬ P)) (q : ¬ P) : v = some (.int 0) ∧ True := ⟨h.elim (fun r => absurd r.2 q) fun r => r.1, trivial⟩

section OwnLS
variable {p : Program} {l : Launch} {e : Env} {R : Room} {s : State} {args : Array Value} {below : List Frame} {Z : State} {a0 : Array Value} {h h' : Heap} {vm vm' : Vm}
/-- String's constant #7: not loaded since the start, or booked and its text known -/
def own_LS (Z : State) (vm : Vm) (h : Heap) : Prop := IB Z vm [] ∨ ∃ a, Lit (Z.setVm vm) "java/lang/String" 7 a ∧ own_Str Z h a []
theorem own_LS.ext (F : own_LS Z vm h) (E : Ext h h') : own_LS Z vm h' := F.imp id fun ⟨a, q, r⟩ => ⟨a, q, r.ext E⟩
theorem own_LS.warm (F : own_LS Z vm h) (hW : (s.setVm vm).WarmedH vm') : own_LS Z vm' h := by
  rcases F with F | ⟨a, q, r⟩
  · refine Or.inl ?_
    have e := (hW.since 0).same_table (Nat.zero_le _)
    obtain ⟨more, h1, h2⟩ := F
    exact ⟨more, by rw [e]; exact h1, h2⟩
  · exact Or.inr ⟨a, Lit.stays (s := Z) q hW.wide, r⟩
theorem own_Str.nil {x t : Addr} {kb : ClassId} (E : Exa Z h x "java/lang/String") (V : Fld Z h x "java/lang/String" "value" "[B" (.ref t)) (C : Fld Z h x "java/lang/String" "coder" "B" (.int (0 : Int32))) (K : Arv Z h t kb .byte (0 : Int32) [] (.int (0 : Int32))) : own_Str Z h x [] :=
  ⟨t, kb, 0, 0, [], E, V, C, K, Or.inl ⟨rfl, rfl, rfl, (fun _ q => nomatch q)⟩, (fun _ q => nomatch q), by decide⟩
theorem own_cod0 {cd N : Int32} {vs : List Value} (q : StrChars.Road.CodA [] cd N vs) : cd = 0 ∧ N = 0 ∧ vs = [] := by
  rcases q with ⟨h1, h2, h3, -⟩ | ⟨-, -, -, c, hc, -⟩
  · exact ⟨h1, h2, h3⟩
  · cases hc
theorem own_backS {y : MethodName} {bytes : ByteArray} {maxL : Nat} {ret : Option FieldType} {rm : Room} {len W : Nat} {as' : Array Value} {Q : Option Value → Heap → Vm → List Loc → Prop}
    (hM : MetFree l y (head1 [Cond.code y bytes maxL ret] rm) (fun a U => a = as' ∧ Z.Warmed39 U.vm ∧ U.heap = h ∧ own_LS Z U.vm h) (fun _ _ _ _ _ => True) (fun _ U o U' => ∃ v L, o = .returned v ∧ Q v U'.heap U'.vm L ∧ ReturnedEndW U o U' L rm.cells rm.slots))
    (hZ : Z.Warmed39 s.vm) (wc : (Cond.code y bytes maxL ret).before a0 Z = true) (wz : (Cond.initialized y.cls).before a0 Z = true) (hf : rm.frames + 1 ≤ R.frames) (hl : W + (maxL + 11) + rm.locals ≤ R.locals) :
    BackS l R p e below s args y len W (fun A a => a = as' ∧ A.U.heap = h ∧ A.cells + rm.cells ≤ R.cells ∧ A.slots + rm.slots ≤ R.slots ∧ own_LS Z A.U.vm h)
      (fun A _ v B => ∃ L, Q v B.U.heap B.U.vm L ∧ B.locs = A.locs ++ L ∧ B.cells = A.cells + rm.cells ∧ B.slots = A.slots + rm.slots) :=
  BackS.of_freeW (bytes := bytes) (maxL := maxL) (ret := ret) (E := fun _ _ o t L k n => k = rm.cells ∧ n = rm.slots ∧ ∃ v, o = .returned v ∧ Q v t.heap t.vm L) hM hf hl
    (fun m meth c A a Y hp => have hU : Z.Warmed39 A.U.vm := wtrans hZ Y.warmed
      ⟨by show (Cond.and _ .tt).before a A.U = true; rw [Cond.before_and, mv hU wc]; rfl, mv hU wc, mv hU wz, hp.2.2.1, hp.2.2.2.1⟩)
    (fun m meth c A a g mk Y hp => ⟨hp.1, wtrans hZ Y.warmed, hp.2.1, hp.2.2.2.2⟩) (fun _ _ _ _ _ _ _ _ _ => trivial)
    (fun _ _ _ _ ⟨v, L, h1, h2, h3⟩ => ⟨L, _, _, h3, rfl, rfl, v, h1, h2⟩)
    (fun m meth c A a g mk v t L k n Y hp _ _ ⟨e1, e2, v', e3, e4⟩ => by cases e3; subst e1 e2; exact ⟨L, e4, rfl, rfl, rfl⟩)
end OwnLS

def own_Sta (Z : State) (k0 k1 k2 k3 k4 k5 k6 : Addr) : Prop := Sta Z Z.heap "com/example/librow/librow/QueryLexer$Kind" "WORD" "Lcom/example/librow/librow/QueryLexer$Kind;" (.ref k0) ∧ Sta Z Z.heap "com/example/librow/librow/QueryLexer$Kind" "NUMBER" "Lcom/example/librow/librow/QueryLexer$Kind;" (.ref k1) ∧ Sta Z Z.heap "com/example/librow/librow/QueryLexer$Kind" "STRING" "Lcom/example/librow/librow/QueryLexer$Kind;" (.ref k2) ∧ Sta Z Z.heap "com/example/librow/librow/QueryLexer$Kind" "NAMED" "Lcom/example/librow/librow/QueryLexer$Kind;" (.ref k3) ∧ Sta Z Z.heap "com/example/librow/librow/QueryLexer$Kind" "POSITIONAL" "Lcom/example/librow/librow/QueryLexer$Kind;" (.ref k4) ∧ Sta Z Z.heap "com/example/librow/librow/QueryLexer$Kind" "SYMBOL" "Lcom/example/librow/librow/QueryLexer$Kind;" (.ref k5) ∧ Sta Z Z.heap "com/example/librow/librow/QueryLexer$Kind" "END" "Lcom/example/librow/librow/QueryLexer$Kind;" (.ref k6) ∧ k0 ≠ k5 ∧ k1 ≠ k5 ∧ k2 ≠ k5 ∧ k3 ≠ k5 ∧ k4 ≠ k5 ∧ k6 ≠ k5

def own_txt (n a b : Int32) : List Int32 := if n = 0 then [] else if n = 1 then [a] else [a, b]
theorem own_t0 {n a b : Int32} (h : n = 0) : own_txt n a b = [] := by simp [own_txt, h]
theorem own_t1 {n a b : Int32} (h0 : ¬ n = 0) (h : n = 1) : own_txt n a b = [a] := by subst h; rfl
theorem own_t2 {n a b : Int32} (h0 : ¬ n = 0) (h : ¬ n = 1) : own_txt n a b = [a, b] := by simp [own_txt, h0, h]
theorem own_txt_eq {n m a b c d : Int32} (hn : n = 0 ∨ n = 1 ∨ n = 2) (hm : m = 0 ∨ m = 1 ∨ m = 2) : own_txt n a b = own_txt m c d ↔ n = m ∧ (n < 1 ∨ a = c) ∧ (n < 2 ∨ b = d) := by
  rcases hn with rfl | rfl | rfl <;> rcases hm with rfl | rfl | rfl <;> simp [own_txt] <;> decide
theorem own_nar {c : Int32} (h : ¬ c < 0 ∧ ¬ (255 : Int32) < c) : nar .char c = c := by
  have h0 : 0 ≤ c.toInt := by have := h.1; rw [Int32.lt_iff_toInt_lt] at this; have q : (0 : Int32).toInt = 0 := (by decide); omega
  have h1 : c.toInt ≤ 255 := by have := h.2; rw [Int32.lt_iff_toInt_lt] at this; have q : (255 : Int32).toInt = 255 := (by decide); omega
  have r := c_i2c c
  show c.toUInt32.toUInt16.toUInt32.toInt32 = c
  rw [← Int32.toInt_inj]
  omega
theorem own_rem3 {x y : Int32} (h : ((x &&& (255 : Int32)) % (3 : Int32)) = y) : y = 0 ∨ y = 1 ∨ y = 2 := by
  have q := c_and x 255 (by decide)
  have r := (c_irem (x &&& 255) 3 3 (by decide)).1 q.1
  subst h
  simp only [← Int32.toInt_inj]
  have q0 : (0 : Int32).toInt = 0 := by decide
  have q1 : (1 : Int32).toInt = 1 := by decide
  have q2 : (2 : Int32).toInt = 2 := by decide
  omega
theorem own_chr {x y : Int32} (h : ((x &&& (255 : Int32)).toUInt32.toUInt16.toUInt32.toInt32) = y) : ¬ y < 0 ∧ ¬ (255 : Int32) < y := by
  rw [i2c_mask] at h
  have := c_and x 255 (by decide)
  subst h
  refine ⟨?_, ?_⟩ <;> rw [Int32.lt_iff_toInt_lt] <;> (have q : (255 : Int32).toInt = 255 := by decide) <;> (have q0 : (0 : Int32).toInt = 0 := by decide) <;> omega

theorem own_hp1 {c : Int32} (h : ¬ c < 0 ∧ ¬ (255 : Int32) < c) : ∀ x ∈ [nar .char c], ¬ x < 0 ∧ ¬ (255 : Int32) < x := by
  intro x hx; cases List.mem_singleton.mp hx; rw [own_nar h]; exact h
theorem own_hp2 {c d : Int32} (h : ¬ c < 0 ∧ ¬ (255 : Int32) < c) (g : ¬ d < 0 ∧ ¬ (255 : Int32) < d) : ∀ x ∈ [nar .char c, nar .char d], ¬ x < 0 ∧ ¬ (255 : Int32) < x := by
  intro x hx; simp only [List.mem_cons, List.not_mem_nil, or_false] at hx
  rcases hx with rfl | rfl
  · rw [own_nar h]; exact h
  · rw [own_nar g]; exact g
def own_Q_ini4 (Z : State) (x0 : Addr) (h0 : Heap) (n0 : Nat) (v : Option Value) (h : Heap) (vm : Vm) (L : List Loc) : Prop := v = none ∧ Fr n0 L ∧ Keep h0 h [x0] ∧ own_Str Z h x0 [] ∧ own_LS Z vm h
theorem own_ef_ini4 (m : MethodId) (x0 : Addr) (b0 : Addr) : entryFrame m #[(.ref x0), (.ref b0), (.int (0 : Int32)), (.int (0 : Int32)), .null] 6 = mkF m 0 #[.val (.ref x0), .val (.ref b0), .val (.int (0 : Int32)), .val (.int (0 : Int32)), .val .null, .unset] [] := by first | (simp [entryFrame, mkF, argsToLocals, Value.category, maxLocals]; done) | rfl
set_option maxRecDepth 65536 in
set_option maxHeartbeats 40000000 in
theorem own_rm_ini4 (l : Launch) (Z : State) (a0 : Array Value) (hw : ∀ d ∈ tables_1, d.before a0 Z = true) (G1 : Int32) (S1 : Sta Z Z.heap "java/lang/String" "COMPACT_STRINGS" "Z" (.int G1)) (P1 : ¬ G1 = 0) (hCH : Jvm.Lit.constHeld Z "java/lang/String" 7) (hCW : Jvm.Lit.compactW.before a0 Z = true) (k0 k1 k2 k3 k4 k5 k6 : Addr) (B : own_Sta Z k0 k1 k2 k3 k4 k5 k6) (ws : List Jvm.Cond) (x0 b0 : Addr) (v0 : Value) (h0 : Heap) (n0 : Nat) (Z0 : n0 ≤ h0.size) (XO : Old Z n0 h0) (g0 : n0 ≤ x0) (E1 : Exa Z h0 x0 "java/lang/String") (F1 : Fld Z h0 x0 "java/lang/String" "value" "[B" .null) (F2 : Fld Z h0 x0 "java/lang/String" "coder" "B" v0) :
    MetFree l (⟨"java/lang/String", "<init>", "([CIILjava/lang/Void;)V"⟩ : MethodName) (head1 (Jvm.Cond.code (⟨"java/lang/String", "<init>", "([CIILjava/lang/Void;)V"⟩ : MethodName) jdk_42_method_149_code 6 (none) :: ws) ({ frames := 1, cells := 2, slots := 4, locals := 12 } : Room)) (fun a U => a = #[(.ref x0), (.ref b0), (.int (0 : Int32)), (.int (0 : Int32)), .null] ∧ Z.Warmed39 U.vm ∧ U.heap = h0 ∧ own_LS Z U.vm h0) (fun _ _ _ _ _ => True) (fun _ U o U' => ∃ v L, o = .returned v ∧ (own_Q_ini4 Z x0 h0 n0) v U'.heap U'.vm L ∧ ReturnedEndW U o U' L ({ frames := 1, cells := 2, slots := 4, locals := 12 } : Room).cells ({ frames := 1, cells := 2, slots := 4, locals := 12 } : Room).slots) := by
  refine MetFree.of_bodySF (plainFor_of_name own_pn0) hisR ?_
  intro p e s m args below meth c s₁ Bd hml0 hP hK
  obtain ⟨rfl, hZ, hh, hLS⟩ := hP
  have hx := Bd.exec
  have hby := Bd.bytes
  have hlk : meth.locks = false := BodyLoose.notSynchronized Bd
  have hml : c.maxLocals = 6 := hml0
  have hown : s.vm.findClass "java/lang/String" = some m.cls := findClass_of_methodNamed Bd.named
  have hnm := (name_of_methodNamed Bd.named Bd.method).1
  have X0 : Stand p l e ({ frames := 1, cells := 2, slots := 4, locals := 12 } : Room) (s.setVm s.vm) m #[(.ref x0), (.ref b0), (.int (0 : Int32)), (.int (0 : Int32)), .null] below meth c s₁ [] 0 0 := Stand.of_body Bd
  have hZ : Z.Warmed39 (s.setVm s.vm).vm := hZ
  have hown : (s.setVm s.vm).vm.findClass "java/lang/String" = some m.cls := hown
  have sn0 : s.Since s.vm 0 := (State.WarmedH.refl s).since 0
  have e0 : s₁.heap = h0 := by rw [← hh, Bd.state]; rfl
  have N0 := Fr.nil n0
  show own_Fin p e below (s₁.setTop (entryFrame m #[(.ref x0), (.ref b0), (.int (0 : Int32)), (.int (0 : Int32)), .null] 6)) (own_EndW s ((own_Q_ini4 Z x0 h0 n0)) ({ frames := 1, cells := 2, slots := 4, locals := 12 } : Room).cells ({ frames := 1, cells := 2, slots := 4, locals := 12 } : Room).slots)
  refine own_st (S' := s₁.setTop (mkF m 0 #[.val (.ref x0), .val (.ref b0), .val (.int (0 : Int32)), .val (.int (0 : Int32)), .val .null, .unset] [])) (fun _ k => castTop (own_ef_ini4 m x0 b0) k) ?_
  refine own_st (S' := s₁.setTop (mkF m 1 #[.val (.ref x0), .val (.ref b0), .val (.int (0 : Int32)), .val (.int (0 : Int32)), .val .null, .unset] [(.ref x0)])) (fun _ k => XS.aloadN X0.here hx rfl (hb hby own_d_jdk_42_method_149_code_0) rfl rfl k) ?_
  obtain ⟨T101, X101, e101, st101⟩ := initO X0 hx hZ hown (hw _ own_w16) (hw _ own_w17) (hw _ own_w18) e0 (g := (mkF m 1 #[.val (.ref x0), .val (.ref b0), .val (.int (0 : Int32)), .val (.int (0 : Int32)), .val .null, .unset] [(.ref x0)])) rfl (by rw [hml]; rfl) rfl (hb hby own_d_jdk_42_method_149_code_1) (by decide) (W := 0) (by show 2 * 0 + _ ≤ _; exact Nat.le_of_eq rfl) (by decide)
  refine own_st (S' := T101.setTop (mkF m 4 #[.val (.ref x0), .val (.ref b0), .val (.int (0 : Int32)), .val (.int (0 : Int32)), .val .null, .unset] [])) st101 ?_
  refine own_st (S' := T101.setTop (mkF m 9 #[.val (.ref x0), .val (.ref b0), .val (.int (0 : Int32)), .val (.int (0 : Int32)), .val .null, .unset] [(.ref x0)])) (fun _ k => XS.iloadN X101.here hx rfl (hb hby own_d_jdk_42_method_149_code_4) rfl (XS.ifNo X101.here hx rfl (hb hby own_d_jdk_42_method_149_code_5) rfl (by decide) (XS.aloadN X101.here hx rfl (hb hby own_d_jdk_42_method_149_code_8) rfl rfl k))) ?_
  rcases hLS with hI102 | ⟨u102, hL102, hY102⟩
  · obtain ⟨u102, T102, h102, k102, v102, kb102, X102, e102, E102, sn102, sk102, hz102, ho102, Ex102, Fc102, Fv102, V102, -, -, IB102, L102, st102⟩ := ldcSVL (s := s) (vm0 := s.vm) X101 hx hZ hown (hw _ own_w35) (fun d hd => hw d ((by decide +kernel : ∀ d ∈ Bundle.stringAtoms, d ∈ tables_1) d hd)) e101 sn0 (Nat.le_trans (Nat.zero_le _) (Nat.le_refl _)) (Fr.nil _) (fun b cl q => hh ▸ XO.2.2 b cl q) hI102 (by simp) hCH hCW (vs := []) (z := 0) ⟨by decide, rfl⟩ (by decide) (by decide) (g := (mkF m 9 #[.val (.ref x0), .val (.ref b0), .val (.int (0 : Int32)), .val (.int (0 : Int32)), .val .null, .unset] [(.ref x0)])) rfl (hb hby own_d_jdk_42_method_149_code_9) (n := 0) (by decide) (by decide) (by decide) (by decide)
    have F103 : Fld Z h102 x0 "java/lang/String" "value" "[B" .null := (F1.ext E102)
    have A104 : Exa Z h102 x0 "java/lang/String" := (E1.ext E102)
    refine own_st (S' := T102.setTop (mkF m 11 #[.val (.ref x0), .val (.ref b0), .val (.int (0 : Int32)), .val (.int (0 : Int32)), .val .null, .unset] [(.ref u102), (.ref x0)])) st102 ?_
    obtain ⟨T105, X105, e105, st105⟩ := getF X102 hx hz102 ho102 (host := "") (Or.inl (hw _ own_w33)) Via.refl e102 Fv102 (g := (mkF m 11 #[.val (.ref x0), .val (.ref b0), .val (.int (0 : Int32)), .val (.int (0 : Int32)), .val .null, .unset] [(.ref u102), (.ref x0)])) rfl rfl (hb hby own_d_jdk_42_method_149_code_11)
    refine own_st (S' := T105.setTop (mkF m 14 #[.val (.ref x0), .val (.ref b0), .val (.int (0 : Int32)), .val (.int (0 : Int32)), .val .null, .unset] [(.ref v102), (.ref x0)])) st105 ?_
    obtain ⟨T106, h106, X106, e106, W106, st106⟩ := putF X105 hx hz102 ho102 (host := "") (Or.inl (hw _ own_w33)) Via.refl e105 F103 A104 (Or.inr ⟨(hw _ own_w34), rfl, hnm⟩) (hw _ own_w6) (ty := (.array .byte)) (by decide) rfl rfl (g := (mkF m 14 #[.val (.ref x0), .val (.ref b0), .val (.int (0 : Int32)), .val (.int (0 : Int32)), .val .null, .unset] [(.ref v102), (.ref x0)])) rfl rfl (hb hby own_d_jdk_42_method_149_code_14)
    have N106 := Fr.snoc X106 N0 g0
    refine own_st (S' := T106.setTop (mkF m 17 #[.val (.ref x0), .val (.ref b0), .val (.int (0 : Int32)), .val (.int (0 : Int32)), .val .null, .unset] [])) st106 ?_
    refine own_st (S' := T106.setTop (mkF m 18 #[.val (.ref x0), .val (.ref b0), .val (.int (0 : Int32)), .val (.int (0 : Int32)), .val .null, .unset] [(.ref x0)])) (fun _ k => XS.aloadN X106.here hx rfl (hb hby own_d_jdk_42_method_149_code_17) rfl rfl k) ?_
    refine own_st (S' := T106.setTop (mkF m 20 #[.val (.ref x0), .val (.ref b0), .val (.int (0 : Int32)), .val (.int (0 : Int32)), .val .null, .unset] [(.ref u102), (.ref x0)])) (ldcAgain (s := s) (vm0 := T102.vm) X106 hx hz102 ho102 (hw _ own_w35) L102 (g := (mkF m 18 #[.val (.ref x0), .val (.ref b0), .val (.int (0 : Int32)), .val (.int (0 : Int32)), .val .null, .unset] [(.ref x0)])) rfl (hb hby own_d_jdk_42_method_149_code_18)) ?_
    have F107 : Fld Z h106 u102 "java/lang/String" "coder" "B" (.int (0 : Int32)) := (Fc102.other W106 (Or.inl (Fld.ne Fv102 F103 (by simp))))
    obtain ⟨T108, X108, e108, st108⟩ := getF X106 hx hz102 ho102 (host := "") (Or.inl (hw _ own_w31)) Via.refl e106 F107 (g := (mkF m 20 #[.val (.ref x0), .val (.ref b0), .val (.int (0 : Int32)), .val (.int (0 : Int32)), .val .null, .unset] [(.ref u102), (.ref x0)])) rfl rfl (hb hby own_d_jdk_42_method_149_code_20)
    refine own_st (S' := T108.setTop (mkF m 23 #[.val (.ref x0), .val (.ref b0), .val (.int (0 : Int32)), .val (.int (0 : Int32)), .val .null, .unset] [(.int (0 : Int32)), (.ref x0)])) st108 ?_
    have F109 : Fld Z h106 x0 "java/lang/String" "coder" "B" v0 := ((F2.ext E102).other W106 (Or.inr (slot_ne (Or.inr (hw _ own_w32)) (Or.inr (hw _ own_w34)) (by decide) (t := .byte) (t' := (.array .byte)) (by decide) (by decide))))
    have A110 : Exa Z h106 x0 "java/lang/String" := (A104.wr W106)
    obtain ⟨T111, h111, X111, e111, W111, st111⟩ := putF X108 hx hz102 ho102 (host := "") (Or.inl (hw _ own_w31)) Via.refl e108 F109 A110 (Or.inr ⟨(hw _ own_w32), rfl, hnm⟩) (hw _ own_w6) (ty := .byte) (by decide) rfl rfl (g := (mkF m 23 #[.val (.ref x0), .val (.ref b0), .val (.int (0 : Int32)), .val (.int (0 : Int32)), .val .null, .unset] [(.int (0 : Int32)), (.ref x0)])) rfl rfl (hb hby own_d_jdk_42_method_149_code_23)
    have N111 := Fr.snoc X111 N106 g0
    refine own_st (S' := T111.setTop (mkF m 26 #[.val (.ref x0), .val (.ref b0), .val (.int (0 : Int32)), .val (.int (0 : Int32)), .val .null, .unset] [])) st111 ?_
    have A112 : Exa Z h111 x0 "java/lang/String" := (A110.wr W111)
    have F113 : Fld Z h111 x0 "java/lang/String" "value" "[B" (.ref v102) := ((F103.same W106).other W111 (Or.inr (slot_ne (Or.inr (hw _ own_w34)) (Or.inr (hw _ own_w32)) (by decide) (t := (.array .byte)) (t' := .byte) (by decide) (by decide))))
    have V114 : Arv Z h111 v102 kb102 .byte (0 : Int32) [] (.int (0 : Int32)) := ((V102.other W106 (Ne.symm (Exa.neArv A104 V102 (hw _ own_w6)))).other W111 (Ne.symm (Exa.neArv A104 V102 (hw _ own_w6))))
    have A115 : Exa Z h111 u102 "java/lang/String" := ((Ex102.wr W106).wr W111)
    have F116 : Fld Z h111 u102 "java/lang/String" "value" "[B" (.ref v102) := ((Fv102.other W106 (Or.inl (Fld.ne Fv102 F103 (by simp)))).other W111 (Or.inl (Fld.ne Fv102 F103 (by simp))))
    have F117 : Fld Z h111 u102 "java/lang/String" "coder" "B" (.int (0 : Int32)) := (F107.other W111 (Or.inl (Fld.ne Fv102 F103 (by simp))))
    refine own_ret0W X111 hx sn102 (by rw [e111]; exact Nat.le_trans sk102 (Nat.le_trans (Nat.le_of_eq W106.size.symm) (Nat.le_of_eq W111.size.symm))) Bd.returns hlk (hb hby own_d_jdk_42_method_149_code_26) (by decide) (by decide) ?_
    rw [e111]
    exact ⟨rfl, N111, ((((Keep.refl _ _).ext E102).wr W106 (Or.inl (List.mem_of_getElem? (i := 0) rfl))).wr W111 (Or.inl (List.mem_of_getElem? (i := 0) rfl))), (own_Str.nil A112 F113 (F109.same W111) V114), Or.inr ⟨u102, Lit.stays (s := Z) L102 X111.warmed.wide, (own_Str.nil A115 F116 F117 V114)⟩⟩
  · obtain ⟨v102, kb102, cd102, nn102, vs102, Ex102, Fv102, Fc102, V102, q102, -, -⟩ := hY102
    obtain ⟨rfl, rfl, rfl⟩ := own_cod0 q102
    refine own_st (S' := T101.setTop (mkF m 11 #[.val (.ref x0), .val (.ref b0), .val (.int (0 : Int32)), .val (.int (0 : Int32)), .val .null, .unset] [(.ref u102), (.ref x0)])) (ldcAgain (s := s) (vm0 := s.vm) X101 hx hZ hown (hw _ own_w35) hL102 (g := (mkF m 9 #[.val (.ref x0), .val (.ref b0), .val (.int (0 : Int32)), .val (.int (0 : Int32)), .val .null, .unset] [(.ref x0)])) rfl (hb hby own_d_jdk_42_method_149_code_9)) ?_
    obtain ⟨T118, X118, e118, st118⟩ := getF X101 hx hZ hown (host := "") (Or.inl (hw _ own_w33)) Via.refl e101 Fv102 (g := (mkF m 11 #[.val (.ref x0), .val (.ref b0), .val (.int (0 : Int32)), .val (.int (0 : Int32)), .val .null, .unset] [(.ref u102), (.ref x0)])) rfl rfl (hb hby own_d_jdk_42_method_149_code_11)
    refine own_st (S' := T118.setTop (mkF m 14 #[.val (.ref x0), .val (.ref b0), .val (.int (0 : Int32)), .val (.int (0 : Int32)), .val .null, .unset] [(.ref v102), (.ref x0)])) st118 ?_
    obtain ⟨T119, h119, X119, e119, W119, st119⟩ := putF X118 hx hZ hown (host := "") (Or.inl (hw _ own_w33)) Via.refl e118 F1 E1 (Or.inr ⟨(hw _ own_w34), rfl, hnm⟩) (hw _ own_w6) (ty := (.array .byte)) (by decide) rfl rfl (g := (mkF m 14 #[.val (.ref x0), .val (.ref b0), .val (.int (0 : Int32)), .val (.int (0 : Int32)), .val .null, .unset] [(.ref v102), (.ref x0)])) rfl rfl (hb hby own_d_jdk_42_method_149_code_14)
    have N119 := Fr.snoc X119 N0 g0
    refine own_st (S' := T119.setTop (mkF m 17 #[.val (.ref x0), .val (.ref b0), .val (.int (0 : Int32)), .val (.int (0 : Int32)), .val .null, .unset] [])) st119 ?_
    refine own_st (S' := T119.setTop (mkF m 18 #[.val (.ref x0), .val (.ref b0), .val (.int (0 : Int32)), .val (.int (0 : Int32)), .val .null, .unset] [(.ref x0)])) (fun _ k => XS.aloadN X119.here hx rfl (hb hby own_d_jdk_42_method_149_code_17) rfl rfl k) ?_
    refine own_st (S' := T119.setTop (mkF m 20 #[.val (.ref x0), .val (.ref b0), .val (.int (0 : Int32)), .val (.int (0 : Int32)), .val .null, .unset] [(.ref u102), (.ref x0)])) (ldcAgain (s := s) (vm0 := s.vm) X119 hx hZ hown (hw _ own_w35) hL102 (g := (mkF m 18 #[.val (.ref x0), .val (.ref b0), .val (.int (0 : Int32)), .val (.int (0 : Int32)), .val .null, .unset] [(.ref x0)])) rfl (hb hby own_d_jdk_42_method_149_code_18)) ?_
    have F120 : Fld Z h119 u102 "java/lang/String" "coder" "B" (.int (0 : Int32)) := (Fc102.other W119 (Or.inl (Fld.ne Fv102 F1 (by simp))))
    obtain ⟨T121, X121, e121, st121⟩ := getF X119 hx hZ hown (host := "") (Or.inl (hw _ own_w31)) Via.refl e119 F120 (g := (mkF m 20 #[.val (.ref x0), .val (.ref b0), .val (.int (0 : Int32)), .val (.int (0 : Int32)), .val .null, .unset] [(.ref u102), (.ref x0)])) rfl rfl (hb hby own_d_jdk_42_method_149_code_20)
    refine own_st (S' := T121.setTop (mkF m 23 #[.val (.ref x0), .val (.ref b0), .val (.int (0 : Int32)), .val (.int (0 : Int32)), .val .null, .unset] [(.int (0 : Int32)), (.ref x0)])) st121 ?_
    have F122 : Fld Z h119 x0 "java/lang/String" "coder" "B" v0 := (F2.other W119 (Or.inr (slot_ne (Or.inr (hw _ own_w32)) (Or.inr (hw _ own_w34)) (by decide) (t := .byte) (t' := (.array .byte)) (by decide) (by decide))))
    have A123 : Exa Z h119 x0 "java/lang/String" := (E1.wr W119)
    obtain ⟨T124, h124, X124, e124, W124, st124⟩ := putF X121 hx hZ hown (host := "") (Or.inl (hw _ own_w31)) Via.refl e121 F122 A123 (Or.inr ⟨(hw _ own_w32), rfl, hnm⟩) (hw _ own_w6) (ty := .byte) (by decide) rfl rfl (g := (mkF m 23 #[.val (.ref x0), .val (.ref b0), .val (.int (0 : Int32)), .val (.int (0 : Int32)), .val .null, .unset] [(.int (0 : Int32)), (.ref x0)])) rfl rfl (hb hby own_d_jdk_42_method_149_code_23)
    have N124 := Fr.snoc X124 N119 g0
    refine own_st (S' := T124.setTop (mkF m 26 #[.val (.ref x0), .val (.ref b0), .val (.int (0 : Int32)), .val (.int (0 : Int32)), .val .null, .unset] [])) st124 ?_
    have A125 : Exa Z h124 x0 "java/lang/String" := (A123.wr W124)
    have F126 : Fld Z h124 x0 "java/lang/String" "value" "[B" (.ref v102) := ((F1.same W119).other W124 (Or.inr (slot_ne (Or.inr (hw _ own_w34)) (Or.inr (hw _ own_w32)) (by decide) (t := (.array .byte)) (t' := .byte) (by decide) (by decide))))
    have V127 : Arv Z h124 v102 kb102 .byte (0 : Int32) [] (.int (0 : Int32)) := ((V102.other W119 (Ne.symm (Exa.neArv E1 V102 (hw _ own_w6)))).other W124 (Ne.symm (Exa.neArv E1 V102 (hw _ own_w6))))
    have A128 : Exa Z h124 u102 "java/lang/String" := ((Ex102.wr W119).wr W124)
    have F129 : Fld Z h124 u102 "java/lang/String" "value" "[B" (.ref v102) := ((Fv102.other W119 (Or.inl (Fld.ne Fv102 F1 (by simp)))).other W124 (Or.inl (Fld.ne Fv102 F1 (by simp))))
    have F130 : Fld Z h124 u102 "java/lang/String" "coder" "B" (.int (0 : Int32)) := (F120.other W124 (Or.inl (Fld.ne Fv102 F1 (by simp))))
    refine own_ret0W X124 hx sn0 (by rw [e124]; exact Nat.le_trans (Nat.zero_le _) (Nat.le_trans (Nat.le_of_eq W119.size.symm) (Nat.le_of_eq W124.size.symm))) Bd.returns hlk (hb hby own_d_jdk_42_method_149_code_26) (by decide) (by decide) ?_
    rw [e124]
    exact ⟨rfl, N124, (((Keep.refl _ _).wr W119 (Or.inl (List.mem_of_getElem? (i := 0) rfl))).wr W124 (Or.inl (List.mem_of_getElem? (i := 0) rfl))), (own_Str.nil A125 F126 (F122.same W124) V127), Or.inr ⟨u102, Lit.stays (s := Z) hL102 X124.warmed.wide, (own_Str.nil A128 F129 F130 V127)⟩⟩
def own_Q_ini1 (Z : State) (x0 : Addr) (h0 : Heap) (n0 : Nat) (v : Option Value) (h : Heap) (vm : Vm) (L : List Loc) : Prop := v = none ∧ Fr n0 L ∧ Keep h0 h [x0] ∧ own_Str Z h x0 [] ∧ own_LS Z vm h
theorem own_ef_ini1 (m : MethodId) (x0 : Addr) (b0 : Addr) : entryFrame m #[(.ref x0), (.ref b0)] 2 = mkF m 0 #[.val (.ref x0), .val (.ref b0)] [] := by first | (simp [entryFrame, mkF, argsToLocals, Value.category, maxLocals]; done) | rfl
set_option maxRecDepth 65536 in
set_option maxHeartbeats 40000000 in
theorem own_rm_ini1 (l : Launch) (Z : State) (a0 : Array Value) (hw : ∀ d ∈ tables_1, d.before a0 Z = true) (G1 : Int32) (S1 : Sta Z Z.heap "java/lang/String" "COMPACT_STRINGS" "Z" (.int G1)) (P1 : ¬ G1 = 0) (hCH : Jvm.Lit.constHeld Z "java/lang/String" 7) (hCW : Jvm.Lit.compactW.before a0 Z = true) (k0 k1 k2 k3 k4 k5 k6 : Addr) (B : own_Sta Z k0 k1 k2 k3 k4 k5 k6) (ws : List Jvm.Cond) (x0 b0 : Addr) (v0 : Value) (kc : ClassId) (h0 : Heap) (n0 : Nat) (Z0 : n0 ≤ h0.size) (XO : Old Z n0 h0) (g0 : n0 ≤ x0) (E1 : Exa Z h0 x0 "java/lang/String") (F1 : Fld Z h0 x0 "java/lang/String" "value" "[B" .null) (F2 : Fld Z h0 x0 "java/lang/String" "coder" "B" v0) (V1 : Arv Z h0 b0 kc .char (0 : Int32) [] (.int (0 : Int32))) :
    MetFree l (⟨"java/lang/String", "<init>", "([C)V"⟩ : MethodName) (head1 (Jvm.Cond.code (⟨"java/lang/String", "<init>", "([C)V"⟩ : MethodName) jdk_42_method_3_code 2 (none) :: ws) ({ frames := 2, cells := 2, slots := 4, locals := 29 } : Room)) (fun a U => a = #[(.ref x0), (.ref b0)] ∧ Z.Warmed39 U.vm ∧ U.heap = h0 ∧ own_LS Z U.vm h0) (fun _ _ _ _ _ => True) (fun _ U o U' => ∃ v L, o = .returned v ∧ (own_Q_ini1 Z x0 h0 n0) v U'.heap U'.vm L ∧ ReturnedEndW U o U' L ({ frames := 2, cells := 2, slots := 4, locals := 29 } : Room).cells ({ frames := 2, cells := 2, slots := 4, locals := 29 } : Room).slots) := by
  refine MetFree.of_bodySF (plainFor_of_name own_pn0) hisR ?_
  intro p e s m args below meth c s₁ Bd hml0 hP hK
  obtain ⟨rfl, hZ, hh, hLS⟩ := hP
  have hx := Bd.exec
  have hby := Bd.bytes
  have hlk : meth.locks = false := BodyLoose.notSynchronized Bd
  have hml : c.maxLocals = 2 := hml0
  have hown : s.vm.findClass "java/lang/String" = some m.cls := findClass_of_methodNamed Bd.named
  have hnm := (name_of_methodNamed Bd.named Bd.method).1
  have X0 : Stand p l e ({ frames := 2, cells := 2, slots := 4, locals := 29 } : Room) (s.setVm s.vm) m #[(.ref x0), (.ref b0)] below meth c s₁ [] 0 0 := Stand.of_body Bd
  have hZ : Z.Warmed39 (s.setVm s.vm).vm := hZ
  have hown : (s.setVm s.vm).vm.findClass "java/lang/String" = some m.cls := hown
  have sn0 : s.Since s.vm 0 := (State.WarmedH.refl s).since 0
  have e0 : s₁.heap = h0 := by rw [← hh, Bd.state]; rfl
  have N0 := Fr.nil n0
  show own_Fin p e below (s₁.setTop (entryFrame m #[(.ref x0), (.ref b0)] 2)) (own_EndW s ((own_Q_ini1 Z x0 h0 n0)) ({ frames := 2, cells := 2, slots := 4, locals := 29 } : Room).cells ({ frames := 2, cells := 2, slots := 4, locals := 29 } : Room).slots)
  refine own_st (S' := s₁.setTop (mkF m 0 #[.val (.ref x0), .val (.ref b0)] [])) (fun _ k => castTop (own_ef_ini1 m x0 b0) k) ?_
  refine own_st (S' := s₁.setTop (mkF m 4 #[.val (.ref x0), .val (.ref b0)] [(.ref b0), (.int (0 : Int32)), (.ref b0), (.ref x0)])) (fun _ k => XS.aloadN X0.here hx rfl (hb hby own_d_jdk_42_method_3_code_0) rfl rfl (XS.aloadN X0.here hx rfl (hb hby own_d_jdk_42_method_3_code_1) rfl rfl (XS.iconst X0.here hx rfl (hb hby own_d_jdk_42_method_3_code_2) (XS.aloadN X0.here hx rfl (hb hby own_d_jdk_42_method_3_code_3) rfl rfl k)))) ?_
  obtain ⟨c101, A101, q101, S101, M101, H101, U101⟩ := id V1
  refine own_st (S' := s₁.setTop (mkF m 5 #[.val (.ref x0), .val (.ref b0)] [(.int (0 : Int32)), (.int (0 : Int32)), (.ref b0), (.ref x0)])) (len_of S101 M101 ▸ X0.arraylength hx (by rw [e0]; exact A101.1) (State.isArrayOf_alike hZ.alike A101.2.1) (g := (mkF m 4 #[.val (.ref x0), .val (.ref b0)] [(.ref b0), (.int (0 : Int32)), (.ref b0), (.ref x0)])) rfl rfl (hb hby own_d_jdk_42_method_3_code_4)) ?_
  refine own_st (S' := s₁.setTop (mkF m 6 #[.val (.ref x0), .val (.ref b0)] [.null, (.int (0 : Int32)), (.int (0 : Int32)), (.ref b0), (.ref x0)])) (fun _ k => XS.aconstNull X0.here hx rfl (hb hby own_d_jdk_42_method_3_code_5) k) ?_
  obtain ⟨_, _, ⟨T102, L102, k102, n102⟩, -, X102, sn102, sg102, ⟨Lc102, hQ102, l102, y102, z102⟩, st102⟩ := X0.specialBackS hx (y := (⟨"java/lang/String", "<init>", "([CIILjava/lang/Void;)V"⟩ : MethodName)) rfl hown (mvT hZ (hw _ own_w12)) (mvT hZ (hw _ own_w13)) (mvT hZ (hw _ own_w15)) (by decide) (own_backS (W := 0) (own_rm_ini4 l Z a0 hw G1 S1 P1 hCH hCW k0 k1 k2 k3 k4 k5 k6 B [] x0 b0 v0 h0 n0 (Nat.le_trans Z0 (Nat.le_refl _)) XO g0 E1 F1 F2) hZ (hw _ own_w15) (hw _ own_w7) (by decide) (by decide)) (g := (mkF m 6 #[.val (.ref x0), .val (.ref b0)] [.null, (.int (0 : Int32)), (.int (0 : Int32)), (.ref b0), (.ref x0)])) rfl (by rw [hml]; rfl) (Steps.refl _) (a := x0) (argsL := [(.ref b0), (.int (0 : Int32)), (.int (0 : Int32)), .null]) (rest := []) (lenOf own_pd0 rfl) rfl (by show 2 * 0 + _ ≤ _; exact Nat.le_of_eq rfl) (hb hby own_d_jdk_42_method_3_code_6) (fun _ hv => ⟨rfl, e0, (by decide : 0 + 2 ≤ _), (by decide : 0 + 4 ≤ _), hLS.warm hv⟩)
  dsimp only [Pt.U, Pt.locs, Pt.cells, Pt.slots] at X102 l102 y102 z102 st102 hQ102 sn102 sg102
  subst l102 y102 z102
  obtain ⟨XX102, ss102, hz102, ho102⟩ := rebS sn0 (n1 := s₁.heap.size) (by rw [e0]; exact Nat.le_trans (Nat.zero_le _) (Nat.le_refl _)) X102 sn102 sg102 hZ hown
  obtain ⟨rfl, M102, K102, Y102, LS102⟩ := hQ102
  have N102 := Fr.app N0 M102
  obtain ⟨h102, e102⟩ : ∃ z, T102.heap = z := ⟨_, rfl⟩
  rw [e102] at K102 LS102 ss102 Y102
  refine own_tr (S' := T102.setTop (mkF m 9 #[.val (.ref x0), .val (.ref b0)] [])) st102 ?_
  refine own_ret0W XX102 hx ss102 (by rw [e102]; exact Nat.le_trans (Nat.le_refl _) (Nat.le_refl _)) Bd.returns hlk (hb hby own_d_jdk_42_method_3_code_9) (by decide) (by decide) ?_
  rw [e102]
  exact ⟨rfl, N102, K102, Y102, (LS102.warm XX102.warmed)⟩
def own_Q_str (Z : State) (n1 c1 c2 : Int32) (h0 : Heap) (n0 : Nat) (v : Option Value) (h : Heap) (vm : Vm) (L : List Loc) : Prop := ∃ r, v = some (.ref r) ∧ Fr n0 L ∧ Ext h0 h ∧ h0.size ≤ r ∧ own_Str Z h r (own_txt n1 c1 c2) ∧ own_LS Z vm h
theorem own_ef_str (m : MethodId) (n1 : Int32) (c1 : Int32) (c2 : Int32) : entryFrame m #[(.int n1), (.int c1), (.int c2)] 3 = mkF m 0 #[.val (.int n1), .val (.int c1), .val (.int c2)] [] := by first | (simp [entryFrame, mkF, argsToLocals, Value.category, maxLocals]; done) | rfl
set_option maxRecDepth 65536 in
set_option maxHeartbeats 40000000 in
theorem own_rm_str (l : Launch) (Z : State) (a0 : Array Value) (hw : ∀ d ∈ tables_1, d.before a0 Z = true) (G1 : Int32) (S1 : Sta Z Z.heap "java/lang/String" "COMPACT_STRINGS" "Z" (.int G1)) (P1 : ¬ G1 = 0) (hCH : Jvm.Lit.constHeld Z "java/lang/String" 7) (hCW : Jvm.Lit.compactW.before a0 Z = true) (k0 k1 k2 k3 k4 k5 k6 : Addr) (B : own_Sta Z k0 k1 k2 k3 k4 k5 k6) (ws : List Jvm.Cond) (n1 c1 c2 : Int32) (h0 : Heap) (n0 : Nat) (Z0 : n0 ≤ h0.size) (XO : Old Z n0 h0) (hc1 : ¬ c1 < 0 ∧ ¬ (255 : Int32) < c1) (hc2 : ¬ c2 < 0 ∧ ¬ (255 : Int32) < c2) :
    MetFree l (⟨"com/example/librow/librow/TokenIsSymbolPinLaw", "str", "(ICC)Ljava/lang/String;"⟩ : MethodName) (head1 (Jvm.Cond.code (⟨"com/example/librow/librow/TokenIsSymbolPinLaw", "str", "(ICC)Ljava/lang/String;"⟩ : MethodName) method_3_code 3 (some (.object "java/lang/String")) :: ws) ({ frames := 4, cells := 4, slots := 8, locals := 66 } : Room)) (fun a U => a = #[(.int n1), (.int c1), (.int c2)] ∧ Z.Warmed39 U.vm ∧ U.heap = h0 ∧ own_LS Z U.vm h0) (fun _ _ _ _ _ => True) (fun _ U o U' => ∃ v L, o = .returned v ∧ (own_Q_str Z n1 c1 c2 h0 n0) v U'.heap U'.vm L ∧ ReturnedEndW U o U' L ({ frames := 4, cells := 4, slots := 8, locals := 66 } : Room).cells ({ frames := 4, cells := 4, slots := 8, locals := 66 } : Room).slots) := by
  refine MetFree.of_bodySF (plainFor_of_name own_pn1) hisR ?_
  intro p e s m args below meth c s₁ Bd hml0 hP hK
  obtain ⟨rfl, hZ, hh, hLS⟩ := hP
  have hx := Bd.exec
  have hby := Bd.bytes
  have hlk : meth.locks = false := BodyLoose.notSynchronized Bd
  have hml : c.maxLocals = 3 := hml0
  have hown : s.vm.findClass "com/example/librow/librow/TokenIsSymbolPinLaw" = some m.cls := findClass_of_methodNamed Bd.named
  have hnm := (name_of_methodNamed Bd.named Bd.method).1
  have X0 : Stand p l e ({ frames := 4, cells := 4, slots := 8, locals := 66 } : Room) (s.setVm s.vm) m #[(.int n1), (.int c1), (.int c2)] below meth c s₁ [] 0 0 := Stand.of_body Bd
  have hZ : Z.Warmed39 (s.setVm s.vm).vm := hZ
  have hown : (s.setVm s.vm).vm.findClass "com/example/librow/librow/TokenIsSymbolPinLaw" = some m.cls := hown
  have sn0 : s.Since s.vm 0 := (State.WarmedH.refl s).since 0
  have e0 : s₁.heap = h0 := by rw [← hh, Bd.state]; rfl
  have N0 := Fr.nil n0
  show own_Fin p e below (s₁.setTop (entryFrame m #[(.int n1), (.int c1), (.int c2)] 3)) (own_EndW s ((own_Q_str Z n1 c1 c2 h0 n0)) ({ frames := 4, cells := 4, slots := 8, locals := 66 } : Room).cells ({ frames := 4, cells := 4, slots := 8, locals := 66 } : Room).slots)
  refine own_st (S' := s₁.setTop (mkF m 0 #[.val (.int n1), .val (.int c1), .val (.int c2)] [])) (fun _ k => castTop (own_ef_str m n1 c1 c2) k) ?_
  obtain ⟨B0, B1, B2, B3, B4, B5, B6, B7, B8, B9, B10, B11, B12⟩ := id B
  refine own_st (S' := s₁.setTop (mkF m 1 #[.val (.int n1), .val (.int c1), .val (.int c2)] [(.int n1)])) (fun _ k => XS.iloadN X0.here hx rfl (hb hby own_d_method_3_code_0) rfl k) ?_
  by_cases hc101 : n1 = (0 : Int32)
  · refine own_st (S' := s₁.setTop (mkF m 4 #[.val (.int n1), .val (.int c1), .val (.int c2)] [])) (fun _ k => XS.ifNo X0.here hx rfl (hb hby own_d_method_3_code_1) rfl ((if0 _ _).trans (teq hc101).2) k) ?_
    obtain ⟨T102, h102, X102, e102, E102, A102, D102, -, st102⟩ := newO X0 hx hZ hown (hw _ own_w5) (hw _ own_w6) (hw _ own_w7) e0 (g := (mkF m 4 #[.val (.int n1), .val (.int c1), .val (.int c2)] [])) rfl (hb hby own_d_method_3_code_4) (by decide) (by decide)
    obtain ⟨b102, g102⟩ : ∃ z, z = h0.size := ⟨_, rfl⟩
    rw [← g102] at A102 D102 st102
    refine own_st (S' := T102.setTop (mkF m 7 #[.val (.int n1), .val (.int c1), .val (.int c2)] [(.ref b102)])) st102 ?_
    refine own_st (S' := T102.setTop (mkF m 9 #[.val (.int n1), .val (.int c1), .val (.int c2)] [(.int (0 : Int32)), (.ref b102), (.ref b102)])) (fun _ k => XS.dup X102.here hx rfl (hb hby own_d_method_3_code_7) rfl rfl (XS.iconst X102.here hx rfl (hb hby own_d_method_3_code_8) k)) ?_
    obtain ⟨T103, h103, k103, X103, e103, E103, A103, AE103, st103⟩ := newPE X102 hx hZ (aty := .char) (hw _ own_w8) e102 (g := (mkF m 9 #[.val (.int n1), .val (.int c1), .val (.int c2)] [(.int (0 : Int32)), (.ref b102), (.ref b102)])) rfl (hb hby own_d_method_3_code_9) rfl (by decide) (cap := 0) (by decide) (by decide) (by decide) (by decide) (ad := "[C") (by decide)
    obtain ⟨b103, g103⟩ : ∃ z, z = h102.size := ⟨_, rfl⟩
    rw [← g103] at A103 AE103 st103
    have V103 : Arv Z h103 b103 k103 .char (0 : Int32) [] (.int (0 : Int32)) := (Arv.new A103 (by decide)).pad (pad_rep [] (.int (0 : Int32)) 0)
    refine own_st (S' := T103.setTop (mkF m 11 #[.val (.int n1), .val (.int c1), .val (.int c2)] [(.ref b103), (.ref b102), (.ref b102)])) st103 ?_
    have A104 : Exa Z h103 b102 "java/lang/String" := (A102.ext E103)
    have F105 : Fld Z h103 b102 "java/lang/String" "value" "[B" .null := ((D102 (Or.inr (hw _ own_w34)) (ty := (.array .byte)) (by decide)).ext E103)
    have F106 : Fld Z h103 b102 "java/lang/String" "coder" "B" (.int (0 : Int32)) := ((D102 (Or.inr (hw _ own_w32)) (ty := .byte) (by decide)).ext E103)
    have XE107 : Ext h0 h103 := (own_xt E102 E103)
    have G108 : own_LS Z s.vm h103 := (hLS.ext XE107)
    have XO109 : Old Z n0 h103 := (XO.ext XE107)
    obtain ⟨_, _, ⟨T110, L110, k110, n110⟩, -, X110, sn110, sg110, ⟨Lc110, hQ110, l110, y110, z110⟩, st110⟩ := X103.specialBackS hx (y := (⟨"java/lang/String", "<init>", "([C)V"⟩ : MethodName)) rfl hown (mvT hZ (hw _ own_w9)) (mvT hZ (hw _ own_w10)) (mvT hZ (hw _ own_w11)) (by decide) (own_backS (W := 1) (own_rm_ini1 l Z a0 hw G1 S1 P1 hCH hCW k0 k1 k2 k3 k4 k5 k6 B [] b102 b103 _ k103 h103 n0 (Nat.le_trans Z0 (Nat.le_trans E102.1 E103.1)) XO109 (Nat.le_trans Z0 (Nat.le_of_eq g102.symm)) A104 F105 F106 V103) hZ (hw _ own_w11) (hw _ own_w7) (by decide) (by decide)) (g := (mkF m 11 #[.val (.int n1), .val (.int c1), .val (.int c2)] [(.ref b103), (.ref b102), (.ref b102)])) rfl (by rw [hml]; rfl) (Steps.refl _) (a := b102) (argsL := [(.ref b103)]) (rest := [(.ref b102)]) (lenOf own_pd1 rfl) rfl (by show 2 * 0 + _ ≤ _; exact Nat.le_of_eq rfl) (hb hby own_d_method_3_code_11) (fun _ hv => ⟨rfl, e103, (by decide : 2 + 2 ≤ _), (by decide : 4 + 4 ≤ _), G108.warm hv⟩)
    dsimp only [Pt.U, Pt.locs, Pt.cells, Pt.slots] at X110 l110 y110 z110 st110 hQ110 sn110 sg110
    subst l110 y110 z110
    obtain ⟨XX110, ss110, hz110, ho110⟩ := rebS sn0 (n1 := T103.heap.size) (by rw [e103]; exact Nat.le_trans (Nat.zero_le _) (Nat.le_trans E102.1 E103.1)) X110 sn110 sg110 hZ hown
    obtain ⟨rfl, M110, K110, Y110, LS110⟩ := hQ110
    have N110 := Fr.app N0 M110
    obtain ⟨h110, e110⟩ : ∃ z, T110.heap = z := ⟨_, rfl⟩
    rw [e110] at K110 LS110 ss110 Y110
    refine own_tr (S' := T110.setTop (mkF m 14 #[.val (.int n1), .val (.int c1), .val (.int c2)] [(.ref b102)])) st110 ?_
    have yy : own_Str Z h110 b102 (own_txt n1 c1 c2) := (own_t0 hc101).symm ▸ Y110
    have XE111 : Ext h0 h110 := (own_xk XE107 K110 (allS (Nat.le_of_eq g102.symm) all0))
    refine own_retW XX110 hx ss110 (by rw [e110]; exact Nat.le_trans (Nat.le_refl _) (Nat.le_refl _)) Bd.returns hlk rfl (Or.inr (Or.inr (Or.inr (Or.inr ⟨rfl, rfl, rfl⟩)))) (hb hby own_d_method_3_code_14) (by decide) (by decide) ?_
    rw [e110]
    exact ⟨b102, rfl, N110, XE111, (Nat.le_of_eq g102.symm), yy, (LS110.warm XX110.warmed)⟩
  · refine own_st (S' := s₁.setTop (mkF m 17 #[.val (.int n1), .val (.int c1), .val (.int c2)] [(.int (1 : Int32)), (.int n1)])) (fun _ k => XS.ifYes X0.here hx rfl (pc0 := 1) (pc' := 15) rfl (hb hby own_d_method_3_code_1) rfl ((if0 _ _).trans (feq hc101).2) (by decide) (by decide) (XS.iloadN X0.here hx rfl (hb hby own_d_method_3_code_15) rfl (XS.iconst X0.here hx rfl (hb hby own_d_method_3_code_16) k))) ?_
    by_cases hc112 : n1 = (1 : Int32)
    · refine own_st (S' := s₁.setTop (mkF m 20 #[.val (.int n1), .val (.int c1), .val (.int c2)] [])) (fun _ k => XS.icmpNo X0.here hx rfl (hb hby own_d_method_3_code_17) rfl (teq hc112).2 k) ?_
      obtain ⟨T113, h113, X113, e113, E113, A113, D113, -, st113⟩ := newO X0 hx hZ hown (hw _ own_w5) (hw _ own_w6) (hw _ own_w7) e0 (g := (mkF m 20 #[.val (.int n1), .val (.int c1), .val (.int c2)] [])) rfl (hb hby own_d_method_3_code_20) (by decide) (by decide)
      obtain ⟨b113, g113⟩ : ∃ z, z = h0.size := ⟨_, rfl⟩
      rw [← g113] at A113 D113 st113
      refine own_st (S' := T113.setTop (mkF m 23 #[.val (.int n1), .val (.int c1), .val (.int c2)] [(.ref b113)])) st113 ?_
      refine own_st (S' := T113.setTop (mkF m 25 #[.val (.int n1), .val (.int c1), .val (.int c2)] [(.int (1 : Int32)), (.ref b113), (.ref b113)])) (fun _ k => XS.dup X113.here hx rfl (hb hby own_d_method_3_code_23) rfl rfl (XS.iconst X113.here hx rfl (hb hby own_d_method_3_code_24) k)) ?_
      obtain ⟨T114, h114, k114, X114, e114, E114, A114, AE114, st114⟩ := newPE X113 hx hZ (aty := .char) (hw _ own_w8) e113 (g := (mkF m 25 #[.val (.int n1), .val (.int c1), .val (.int c2)] [(.int (1 : Int32)), (.ref b113), (.ref b113)])) rfl (hb hby own_d_method_3_code_25) rfl (by decide) (cap := 1) (by decide) (by decide) (by decide) (by decide) (ad := "[C") (by decide)
      obtain ⟨b114, g114⟩ : ∃ z, z = h113.size := ⟨_, rfl⟩
      rw [← g114] at A114 AE114 st114
      have V114 : Arv Z h114 b114 k114 .char (1 : Int32) [(.int (0 : Int32))] (.int (0 : Int32)) := (Arv.new A114 (by decide)).pad (pad_rep [] (.int (0 : Int32)) 1)
      refine own_st (S' := T114.setTop (mkF m 27 #[.val (.int n1), .val (.int c1), .val (.int c2)] [(.ref b114), (.ref b113), (.ref b113)])) st114 ?_
      refine own_st (S' := T114.setTop (mkF m 30 #[.val (.int n1), .val (.int c1), .val (.int c2)] [(.int c1), (.int (0 : Int32)), (.ref b114), (.ref b114), (.ref b113), (.ref b113)])) (fun _ k => XS.dup X114.here hx rfl (hb hby own_d_method_3_code_27) rfl rfl (XS.iconst X114.here hx rfl (hb hby own_d_method_3_code_28) (XS.iloadN X114.here hx rfl (hb hby own_d_method_3_code_29) rfl k))) ?_
      obtain ⟨c115, A115, q115, S115, M115, H115, U115⟩ := id V114
      obtain ⟨T115, h115, X115, e115, W115, st115⟩ := stC X114 hx hZ e114 A115 (j := (0 : Int32)) (inb_of S115 ⟨by decide, by decide⟩) (g := (mkF m 30 #[.val (.int n1), .val (.int c1), .val (.int c2)] [(.int c1), (.int (0 : Int32)), (.ref b114), (.ref b114), (.ref b113), (.ref b113)])) rfl rfl (hb hby own_d_method_3_code_30)
      have N115 := Fr.snoc X115 N0 (Nat.le_trans Z0 (Nat.le_trans E113.1 (Nat.le_of_eq g114.symm)))
      have V115 : Arv Z h115 b114 k114 .char (1 : Int32) [(.int (nar .char c1))] (.int (0 : Int32)) := Arv.set A115 q115 S115 M115 H115 U115 (fits_nar_char _) W115 0 rfl (Nat.le_of_ble_eq_true rfl)
      refine own_st (S' := T115.setTop (mkF m 31 #[.val (.int n1), .val (.int c1), .val (.int c2)] [(.ref b114), (.ref b113), (.ref b113)])) st115 ?_
      have XE116 : Ext h113 h115 := (own_xw E114 W115 (Nat.le_of_eq g114.symm))
      have A117 : Exa Z h115 b113 "java/lang/String" := (A113.ext XE116)
      have F118 : Fld Z h115 b113 "java/lang/String" "value" "[B" .null := ((D113 (Or.inr (hw _ own_w34)) (ty := (.array .byte)) (by decide)).ext XE116)
      have F119 : Fld Z h115 b113 "java/lang/String" "coder" "B" (.int (0 : Int32)) := ((D113 (Or.inr (hw _ own_w32)) (ty := .byte) (by decide)).ext XE116)
      have XE120 : Ext h0 h115 := (own_xw (own_xt E113 E114) W115 (Nat.le_trans E113.1 (Nat.le_of_eq g114.symm)))
      have XO121 : Old Z n0 h115 := (XO.ext XE120)
      have S122 : Sta Z h115 "java/lang/String" "COMPACT_STRINGS" "Z" (.int G1) := (S1.ext XO121.2)
      obtain ⟨_, _, ⟨T123, L123, k123, n123⟩, -, X123, ⟨Lc123, hQ123, l123, y123, z123⟩, st123⟩ := X115.specialBack hx (y := (⟨"java/lang/String", "<init>", "([C)V"⟩ : MethodName)) rfl hown (mvT hZ (hw _ own_w9)) (mvT hZ (hw _ own_w10)) (mvT hZ (hw _ own_w11)) (by decide) (own_newB (W := 1) hZ hw (cs := [nar .char c1]) (n := 1) (n0 := n0) (Nat.le_trans Z0 (Nat.le_of_eq g113.symm)) (Nat.le_trans Z0 (Nat.le_trans (Nat.le_trans E113.1 E114.1) (Nat.le_of_eq W115.size.symm))) A117 F118 F119 V115 S122 P1 rfl rfl (by decide) (by decide) (own_hp1 hc1) (by decide) (by decide)) (g := (mkF m 31 #[.val (.int n1), .val (.int c1), .val (.int c2)] [(.ref b114), (.ref b113), (.ref b113)])) rfl (by rw [hml]; rfl) (Steps.refl _) (a := b113) (argsL := [(.ref b114)]) (rest := [(.ref b113)]) (lenOf own_pd1 rfl) rfl (by show 2 * 0 + _ ≤ _; exact Nat.le_of_eq rfl) (hb hby own_d_method_3_code_31) (fun _ _ => ⟨rfl, e115, (by decide : 2 + 1 ≤ _), (by decide : 5 + 1 ≤ _)⟩)
      dsimp only [Pt.U, Pt.locs, Pt.cells, Pt.slots] at X123 l123 y123 z123 st123 hQ123
      subst l123 y123 z123
      obtain ⟨rfl, M123, K123, Y123⟩ := hQ123
      have N123 := Fr.app N115 M123
      obtain ⟨h123, e123⟩ : ∃ z, T123.heap = z := ⟨_, rfl⟩
      rw [e123] at K123 Y123
      refine own_tr (S' := T123.setTop (mkF m 34 #[.val (.int n1), .val (.int c1), .val (.int c2)] [(.ref b113)])) st123 ?_
      have yy : own_Str Z h123 b113 (own_txt n1 c1 c2) := by rw [own_t1 hc101 hc112]; exact own_nar hc1 ▸ Y123
      have XE124 : Ext h0 h123 := (own_xk XE120 K123 (allS (Nat.le_of_eq g113.symm) all0))
      have G125 : own_LS Z s.vm h123 := (hLS.ext XE124)
      refine own_retW X123 hx sn0 (by rw [e123]; exact Nat.le_trans (Nat.zero_le _) (Nat.le_trans (Nat.le_trans (Nat.le_trans E113.1 E114.1) (Nat.le_of_eq W115.size.symm)) K123.1)) Bd.returns hlk rfl (Or.inr (Or.inr (Or.inr (Or.inr ⟨rfl, rfl, rfl⟩)))) (hb hby own_d_method_3_code_34) (by decide) (by decide) ?_
      rw [e123]
      exact ⟨b113, rfl, N123, XE124, (Nat.le_of_eq g113.symm), yy, (G125.warm X123.warmed)⟩
    · refine own_st (S' := s₁.setTop (mkF m 35 #[.val (.int n1), .val (.int c1), .val (.int c2)] [])) (fun _ k => XS.icmpYes X0.here hx rfl (pc0 := 17) (pc' := 35) rfl (hb hby own_d_method_3_code_17) rfl (feq hc112).2 (by decide) (by decide) k) ?_
      obtain ⟨T126, h126, X126, e126, E126, A126, D126, -, st126⟩ := newO X0 hx hZ hown (hw _ own_w5) (hw _ own_w6) (hw _ own_w7) e0 (g := (mkF m 35 #[.val (.int n1), .val (.int c1), .val (.int c2)] [])) rfl (hb hby own_d_method_3_code_35) (by decide) (by decide)
      obtain ⟨b126, g126⟩ : ∃ z, z = h0.size := ⟨_, rfl⟩
      rw [← g126] at A126 D126 st126
      refine own_st (S' := T126.setTop (mkF m 38 #[.val (.int n1), .val (.int c1), .val (.int c2)] [(.ref b126)])) st126 ?_
      refine own_st (S' := T126.setTop (mkF m 40 #[.val (.int n1), .val (.int c1), .val (.int c2)] [(.int (2 : Int32)), (.ref b126), (.ref b126)])) (fun _ k => XS.dup X126.here hx rfl (hb hby own_d_method_3_code_38) rfl rfl (XS.iconst X126.here hx rfl (hb hby own_d_method_3_code_39) k)) ?_
      obtain ⟨T127, h127, k127, X127, e127, E127, A127, AE127, st127⟩ := newPE X126 hx hZ (aty := .char) (hw _ own_w8) e126 (g := (mkF m 40 #[.val (.int n1), .val (.int c1), .val (.int c2)] [(.int (2 : Int32)), (.ref b126), (.ref b126)])) rfl (hb hby own_d_method_3_code_40) rfl (by decide) (cap := 2) (by decide) (by decide) (by decide) (by decide) (ad := "[C") (by decide)
      obtain ⟨b127, g127⟩ : ∃ z, z = h126.size := ⟨_, rfl⟩
      rw [← g127] at A127 AE127 st127
      have V127 : Arv Z h127 b127 k127 .char (2 : Int32) [(.int (0 : Int32)), (.int (0 : Int32))] (.int (0 : Int32)) := (Arv.new A127 (by decide)).pad (pad_rep [] (.int (0 : Int32)) 2)
      refine own_st (S' := T127.setTop (mkF m 42 #[.val (.int n1), .val (.int c1), .val (.int c2)] [(.ref b127), (.ref b126), (.ref b126)])) st127 ?_
      refine own_st (S' := T127.setTop (mkF m 45 #[.val (.int n1), .val (.int c1), .val (.int c2)] [(.int c1), (.int (0 : Int32)), (.ref b127), (.ref b127), (.ref b126), (.ref b126)])) (fun _ k => XS.dup X127.here hx rfl (hb hby own_d_method_3_code_42) rfl rfl (XS.iconst X127.here hx rfl (hb hby own_d_method_3_code_43) (XS.iloadN X127.here hx rfl (hb hby own_d_method_3_code_44) rfl k))) ?_
      obtain ⟨c128, A128, q128, S128, M128, H128, U128⟩ := id V127
      obtain ⟨T128, h128, X128, e128, W128, st128⟩ := stC X127 hx hZ e127 A128 (j := (0 : Int32)) (inb_of S128 ⟨by decide, by decide⟩) (g := (mkF m 45 #[.val (.int n1), .val (.int c1), .val (.int c2)] [(.int c1), (.int (0 : Int32)), (.ref b127), (.ref b127), (.ref b126), (.ref b126)])) rfl rfl (hb hby own_d_method_3_code_45)
      have N128 := Fr.snoc X128 N0 (Nat.le_trans Z0 (Nat.le_trans E126.1 (Nat.le_of_eq g127.symm)))
      have V128 : Arv Z h128 b127 k127 .char (2 : Int32) [(.int (nar .char c1)), (.int (0 : Int32))] (.int (0 : Int32)) := Arv.set A128 q128 S128 M128 H128 U128 (fits_nar_char _) W128 0 rfl (Nat.le_of_ble_eq_true rfl)
      refine own_st (S' := T128.setTop (mkF m 46 #[.val (.int n1), .val (.int c1), .val (.int c2)] [(.ref b127), (.ref b126), (.ref b126)])) st128 ?_
      refine own_st (S' := T128.setTop (mkF m 49 #[.val (.int n1), .val (.int c1), .val (.int c2)] [(.int c2), (.int (1 : Int32)), (.ref b127), (.ref b127), (.ref b126), (.ref b126)])) (fun _ k => XS.dup X128.here hx rfl (hb hby own_d_method_3_code_46) rfl rfl (XS.iconst X128.here hx rfl (hb hby own_d_method_3_code_47) (XS.iloadN X128.here hx rfl (hb hby own_d_method_3_code_48) rfl k))) ?_
      obtain ⟨c129, A129, q129, S129, M129, H129, U129⟩ := id V128
      obtain ⟨T129, h129, X129, e129, W129, st129⟩ := stC X128 hx hZ e128 A129 (j := (1 : Int32)) (inb_of S129 ⟨by decide, by decide⟩) (g := (mkF m 49 #[.val (.int n1), .val (.int c1), .val (.int c2)] [(.int c2), (.int (1 : Int32)), (.ref b127), (.ref b127), (.ref b126), (.ref b126)])) rfl rfl (hb hby own_d_method_3_code_49)
      have N129 := Fr.snoc X129 N128 (Nat.le_trans Z0 (Nat.le_trans E126.1 (Nat.le_of_eq g127.symm)))
      have V129 : Arv Z h129 b127 k127 .char (2 : Int32) [(.int (nar .char c1)), (.int (nar .char c2))] (.int (0 : Int32)) := Arv.set A129 q129 S129 M129 H129 U129 (fits_nar_char _) W129 1 rfl (Nat.le_of_ble_eq_true rfl)
      refine own_st (S' := T129.setTop (mkF m 50 #[.val (.int n1), .val (.int c1), .val (.int c2)] [(.ref b127), (.ref b126), (.ref b126)])) st129 ?_
      have XE130 : Ext h126 h129 := (own_xw (own_xw E127 W128 (Nat.le_of_eq g127.symm)) W129 (Nat.le_of_eq g127.symm))
      have A131 : Exa Z h129 b126 "java/lang/String" := (A126.ext XE130)
      have F132 : Fld Z h129 b126 "java/lang/String" "value" "[B" .null := ((D126 (Or.inr (hw _ own_w34)) (ty := (.array .byte)) (by decide)).ext XE130)
      have F133 : Fld Z h129 b126 "java/lang/String" "coder" "B" (.int (0 : Int32)) := ((D126 (Or.inr (hw _ own_w32)) (ty := .byte) (by decide)).ext XE130)
      have XE134 : Ext h0 h129 := (own_xw (own_xw (own_xt E126 E127) W128 (Nat.le_trans E126.1 (Nat.le_of_eq g127.symm))) W129 (Nat.le_trans E126.1 (Nat.le_of_eq g127.symm)))
      have XO135 : Old Z n0 h129 := (XO.ext XE134)
      have S136 : Sta Z h129 "java/lang/String" "COMPACT_STRINGS" "Z" (.int G1) := (S1.ext XO135.2)
      obtain ⟨_, _, ⟨T137, L137, k137, n137⟩, -, X137, ⟨Lc137, hQ137, l137, y137, z137⟩, st137⟩ := X129.specialBack hx (y := (⟨"java/lang/String", "<init>", "([C)V"⟩ : MethodName)) rfl hown (mvT hZ (hw _ own_w9)) (mvT hZ (hw _ own_w10)) (mvT hZ (hw _ own_w11)) (by decide) (own_newB (W := 1) hZ hw (cs := [nar .char c1, nar .char c2]) (n := 2) (n0 := n0) (Nat.le_trans Z0 (Nat.le_of_eq g126.symm)) (Nat.le_trans Z0 (Nat.le_trans (Nat.le_trans (Nat.le_trans E126.1 E127.1) (Nat.le_of_eq W128.size.symm)) (Nat.le_of_eq W129.size.symm))) A131 F132 F133 V129 S136 P1 rfl rfl (by decide) (by decide) (own_hp2 hc1 hc2) (by decide) (by decide)) (g := (mkF m 50 #[.val (.int n1), .val (.int c1), .val (.int c2)] [(.ref b127), (.ref b126), (.ref b126)])) rfl (by rw [hml]; rfl) (Steps.refl _) (a := b126) (argsL := [(.ref b127)]) (rest := [(.ref b126)]) (lenOf own_pd1 rfl) rfl (by show 2 * 0 + _ ≤ _; exact Nat.le_of_eq rfl) (hb hby own_d_method_3_code_50) (fun _ _ => ⟨rfl, e129, (by decide : 2 + 1 ≤ _), (by decide : 6 + 2 ≤ _)⟩)
      dsimp only [Pt.U, Pt.locs, Pt.cells, Pt.slots] at X137 l137 y137 z137 st137 hQ137
      subst l137 y137 z137
      obtain ⟨rfl, M137, K137, Y137⟩ := hQ137
      have N137 := Fr.app N129 M137
      obtain ⟨h137, e137⟩ : ∃ z, T137.heap = z := ⟨_, rfl⟩
      rw [e137] at K137 Y137
      refine own_tr (S' := T137.setTop (mkF m 53 #[.val (.int n1), .val (.int c1), .val (.int c2)] [(.ref b126)])) st137 ?_
      have yy : own_Str Z h137 b126 (own_txt n1 c1 c2) := by rw [own_t2 hc101 hc112]; have q := Y137; rw [own_nar hc1, own_nar hc2] at q; exact q
      have XE138 : Ext h0 h137 := (own_xk XE134 K137 (allS (Nat.le_of_eq g126.symm) all0))
      have G139 : own_LS Z s.vm h137 := (hLS.ext XE138)
      refine own_retW X137 hx sn0 (by rw [e137]; exact Nat.le_trans (Nat.zero_le _) (Nat.le_trans (Nat.le_trans (Nat.le_trans (Nat.le_trans E126.1 E127.1) (Nat.le_of_eq W128.size.symm)) (Nat.le_of_eq W129.size.symm)) K137.1)) Bd.returns hlk rfl (Or.inr (Or.inr (Or.inr (Or.inr ⟨rfl, rfl, rfl⟩)))) (hb hby own_d_method_3_code_53) (by decide) (by decide) ?_
      rw [e137]
      exact ⟨b126, rfl, N137, XE138, (Nat.le_of_eq g126.symm), yy, (G139.warm X137.warmed)⟩
def own_Q_kind (Z : State) (n1 : Int32) (k5 : Addr) (h0 : Heap) (n0 : Nat) (v : Option Value) (h : Heap) (L : List Loc) : Prop := ∃ r, v = some (.ref r) ∧ Fr n0 L ∧ h = h0 ∧ ((n1 = 5 ∧ r = k5) ∨ (¬ n1 = 5 ∧ r ≠ k5))
theorem own_ef_kind (m : MethodId) (n1 : Int32) : entryFrame m #[(.int n1)] 1 = mkF m 0 #[.val (.int n1)] [] := by first | (simp [entryFrame, mkF, argsToLocals, Value.category, maxLocals]; done) | rfl
set_option maxRecDepth 65536 in
set_option maxHeartbeats 40000000 in
theorem own_rm_kind (l : Launch) (Z : State) (a0 : Array Value) (hw : ∀ d ∈ tables_1, d.before a0 Z = true) (G1 : Int32) (S1 : Sta Z Z.heap "java/lang/String" "COMPACT_STRINGS" "Z" (.int G1)) (P1 : ¬ G1 = 0) (hCH : Jvm.Lit.constHeld Z "java/lang/String" 7) (hCW : Jvm.Lit.compactW.before a0 Z = true) (k0 k1 k2 k3 k4 k5 k6 : Addr) (B : own_Sta Z k0 k1 k2 k3 k4 k5 k6) (ws : List Jvm.Cond) (n1 : Int32) (h0 : Heap) (n0 : Nat) (Z0 : n0 ≤ h0.size) (XO : Old Z n0 h0) :
    MetFree l (⟨"com/example/librow/librow/TokenIsSymbolPinLaw", "kind", "(I)Lcom/example/librow/librow/QueryLexer$Kind;"⟩ : MethodName) (head1 (Jvm.Cond.code (⟨"com/example/librow/librow/TokenIsSymbolPinLaw", "kind", "(I)Lcom/example/librow/librow/QueryLexer$Kind;"⟩ : MethodName) method_4_code 1 (some (.object "com/example/librow/librow/QueryLexer$Kind")) :: ws) ({ frames := 0, cells := 0, slots := 0, locals := 0 } : Room)) (fun a U => a = #[(.int n1)] ∧ Z.Warmed39 U.vm ∧ U.heap = h0) (fun _ _ _ _ _ => True) (fun _ U o U' => ∃ v L, o = .returned v ∧ (own_Q_kind Z n1 k5 h0 n0) v U'.heap L ∧ FrameEnd U o U' L ({ frames := 0, cells := 0, slots := 0, locals := 0 } : Room).cells ({ frames := 0, cells := 0, slots := 0, locals := 0 } : Room).slots) := by
  refine MetFree.of_bodySF (plainFor_of_name own_pn1) hisR ?_
  intro p e s m args below meth c s₁ Bd hml0 hP hK
  obtain ⟨rfl, hZ, hh⟩ := hP
  have hx := Bd.exec
  have hby := Bd.bytes
  have hlk : meth.locks = false := BodyLoose.notSynchronized Bd
  have hml : c.maxLocals = 1 := hml0
  have hown : s.vm.findClass "com/example/librow/librow/TokenIsSymbolPinLaw" = some m.cls := findClass_of_methodNamed Bd.named
  have hnm := (name_of_methodNamed Bd.named Bd.method).1
  have X0 : Stand p l e ({ frames := 0, cells := 0, slots := 0, locals := 0 } : Room) s m #[(.int n1)] below meth c s₁ [] 0 0 := Stand.of_body Bd
  have e0 : s₁.heap = h0 := by rw [← hh, Bd.state]; rfl
  have N0 := Fr.nil n0
  show own_Fin p e below (s₁.setTop (entryFrame m #[(.int n1)] 1)) (own_End s ((own_Q_kind Z n1 k5 h0 n0)) ({ frames := 0, cells := 0, slots := 0, locals := 0 } : Room).cells ({ frames := 0, cells := 0, slots := 0, locals := 0 } : Room).slots)
  refine own_st (S' := s₁.setTop (mkF m 0 #[.val (.int n1)] [])) (fun _ k => castTop (own_ef_kind m n1) k) ?_
  obtain ⟨B0, B1, B2, B3, B4, B5, B6, B7, B8, B9, B10, B11, B12⟩ := id B
  refine own_st (S' := s₁.setTop (mkF m 1 #[.val (.int n1)] [(.int n1)])) (fun _ k => XS.iloadN X0.here hx rfl (hb hby own_d_method_4_code_0) rfl k) ?_
  by_cases hc101 : n1 = (0 : Int32)
  · refine own_st (S' := s₁.setTop (mkF m 4 #[.val (.int n1)] [])) (fun _ k => XS.ifNo X0.here hx rfl (hb hby own_d_method_4_code_1) rfl ((if0 _ _).trans (teq hc101).2) k) ?_
    have S102 : Sta Z h0 "com/example/librow/librow/QueryLexer$Kind" "WORD" "Lcom/example/librow/librow/QueryLexer$Kind;" (.ref k0) := (B0.ext XO.2)
    obtain ⟨T103, X103, e103, st103⟩ := getS2 X0 hx hZ hown (host := "") (Or.inl (hw _ own_w44)) Via.refl e0 S102 (g := (mkF m 4 #[.val (.int n1)] [])) rfl (hb hby own_d_method_4_code_4)
    refine own_st (S' := T103.setTop (mkF m 7 #[.val (.int n1)] [(.ref k0)])) st103 ?_
    refine own_ret X103 hx Bd.returns hlk rfl (Or.inr (Or.inr (Or.inr (Or.inr ⟨rfl, rfl, rfl⟩)))) (hb hby own_d_method_4_code_7) (by decide) (by decide) ?_
    rw [e103]
    exact ⟨k0, rfl, N0, rfl, Or.inr ⟨fun q => absurd (q.symm.trans hc101) (by decide), B7⟩⟩
  · refine own_st (S' := s₁.setTop (mkF m 10 #[.val (.int n1)] [(.int (1 : Int32)), (.int n1)])) (fun _ k => XS.ifYes X0.here hx rfl (pc0 := 1) (pc' := 8) rfl (hb hby own_d_method_4_code_1) rfl ((if0 _ _).trans (feq hc101).2) (by decide) (by decide) (XS.iloadN X0.here hx rfl (hb hby own_d_method_4_code_8) rfl (XS.iconst X0.here hx rfl (hb hby own_d_method_4_code_9) k))) ?_
    by_cases hc104 : n1 = (1 : Int32)
    · refine own_st (S' := s₁.setTop (mkF m 13 #[.val (.int n1)] [])) (fun _ k => XS.icmpNo X0.here hx rfl (hb hby own_d_method_4_code_10) rfl (teq hc104).2 k) ?_
      have S105 : Sta Z h0 "com/example/librow/librow/QueryLexer$Kind" "NUMBER" "Lcom/example/librow/librow/QueryLexer$Kind;" (.ref k1) := (B1.ext XO.2)
      obtain ⟨T106, X106, e106, st106⟩ := getS2 X0 hx hZ hown (host := "") (Or.inl (hw _ own_w75)) Via.refl e0 S105 (g := (mkF m 13 #[.val (.int n1)] [])) rfl (hb hby own_d_method_4_code_13)
      refine own_st (S' := T106.setTop (mkF m 16 #[.val (.int n1)] [(.ref k1)])) st106 ?_
      refine own_ret X106 hx Bd.returns hlk rfl (Or.inr (Or.inr (Or.inr (Or.inr ⟨rfl, rfl, rfl⟩)))) (hb hby own_d_method_4_code_16) (by decide) (by decide) ?_
      rw [e106]
      exact ⟨k1, rfl, N0, rfl, Or.inr ⟨fun q => absurd (q.symm.trans hc104) (by decide), B8⟩⟩
    · refine own_st (S' := s₁.setTop (mkF m 19 #[.val (.int n1)] [(.int (2 : Int32)), (.int n1)])) (fun _ k => XS.icmpYes X0.here hx rfl (pc0 := 10) (pc' := 17) rfl (hb hby own_d_method_4_code_10) rfl (feq hc104).2 (by decide) (by decide) (XS.iloadN X0.here hx rfl (hb hby own_d_method_4_code_17) rfl (XS.iconst X0.here hx rfl (hb hby own_d_method_4_code_18) k))) ?_
      by_cases hc107 : n1 = (2 : Int32)
      · refine own_st (S' := s₁.setTop (mkF m 22 #[.val (.int n1)] [])) (fun _ k => XS.icmpNo X0.here hx rfl (hb hby own_d_method_4_code_19) rfl (teq hc107).2 k) ?_
        have S108 : Sta Z h0 "com/example/librow/librow/QueryLexer$Kind" "STRING" "Lcom/example/librow/librow/QueryLexer$Kind;" (.ref k2) := (B2.ext XO.2)
        obtain ⟨T109, X109, e109, st109⟩ := getS2 X0 hx hZ hown (host := "") (Or.inl (hw _ own_w73)) Via.refl e0 S108 (g := (mkF m 22 #[.val (.int n1)] [])) rfl (hb hby own_d_method_4_code_22)
        refine own_st (S' := T109.setTop (mkF m 25 #[.val (.int n1)] [(.ref k2)])) st109 ?_
        refine own_ret X109 hx Bd.returns hlk rfl (Or.inr (Or.inr (Or.inr (Or.inr ⟨rfl, rfl, rfl⟩)))) (hb hby own_d_method_4_code_25) (by decide) (by decide) ?_
        rw [e109]
        exact ⟨k2, rfl, N0, rfl, Or.inr ⟨fun q => absurd (q.symm.trans hc107) (by decide), B9⟩⟩
      · refine own_st (S' := s₁.setTop (mkF m 28 #[.val (.int n1)] [(.int (3 : Int32)), (.int n1)])) (fun _ k => XS.icmpYes X0.here hx rfl (pc0 := 19) (pc' := 26) rfl (hb hby own_d_method_4_code_19) rfl (feq hc107).2 (by decide) (by decide) (XS.iloadN X0.here hx rfl (hb hby own_d_method_4_code_26) rfl (XS.iconst X0.here hx rfl (hb hby own_d_method_4_code_27) k))) ?_
        by_cases hc110 : n1 = (3 : Int32)
        · refine own_st (S' := s₁.setTop (mkF m 31 #[.val (.int n1)] [])) (fun _ k => XS.icmpNo X0.here hx rfl (hb hby own_d_method_4_code_28) rfl (teq hc110).2 k) ?_
          have S111 : Sta Z h0 "com/example/librow/librow/QueryLexer$Kind" "NAMED" "Lcom/example/librow/librow/QueryLexer$Kind;" (.ref k3) := (B3.ext XO.2)
          obtain ⟨T112, X112, e112, st112⟩ := getS2 X0 hx hZ hown (host := "") (Or.inl (hw _ own_w77)) Via.refl e0 S111 (g := (mkF m 31 #[.val (.int n1)] [])) rfl (hb hby own_d_method_4_code_31)
          refine own_st (S' := T112.setTop (mkF m 34 #[.val (.int n1)] [(.ref k3)])) st112 ?_
          refine own_ret X112 hx Bd.returns hlk rfl (Or.inr (Or.inr (Or.inr (Or.inr ⟨rfl, rfl, rfl⟩)))) (hb hby own_d_method_4_code_34) (by decide) (by decide) ?_
          rw [e112]
          exact ⟨k3, rfl, N0, rfl, Or.inr ⟨fun q => absurd (q.symm.trans hc110) (by decide), B10⟩⟩
        · refine own_st (S' := s₁.setTop (mkF m 37 #[.val (.int n1)] [(.int (4 : Int32)), (.int n1)])) (fun _ k => XS.icmpYes X0.here hx rfl (pc0 := 28) (pc' := 35) rfl (hb hby own_d_method_4_code_28) rfl (feq hc110).2 (by decide) (by decide) (XS.iloadN X0.here hx rfl (hb hby own_d_method_4_code_35) rfl (XS.iconst X0.here hx rfl (hb hby own_d_method_4_code_36) k))) ?_
          by_cases hc113 : n1 = (4 : Int32)
          · refine own_st (S' := s₁.setTop (mkF m 40 #[.val (.int n1)] [])) (fun _ k => XS.icmpNo X0.here hx rfl (hb hby own_d_method_4_code_37) rfl (teq hc113).2 k) ?_
            have S114 : Sta Z h0 "com/example/librow/librow/QueryLexer$Kind" "POSITIONAL" "Lcom/example/librow/librow/QueryLexer$Kind;" (.ref k4) := (B4.ext XO.2)
            obtain ⟨T115, X115, e115, st115⟩ := getS2 X0 hx hZ hown (host := "") (Or.inl (hw _ own_w71)) Via.refl e0 S114 (g := (mkF m 40 #[.val (.int n1)] [])) rfl (hb hby own_d_method_4_code_40)
            refine own_st (S' := T115.setTop (mkF m 43 #[.val (.int n1)] [(.ref k4)])) st115 ?_
            refine own_ret X115 hx Bd.returns hlk rfl (Or.inr (Or.inr (Or.inr (Or.inr ⟨rfl, rfl, rfl⟩)))) (hb hby own_d_method_4_code_43) (by decide) (by decide) ?_
            rw [e115]
            exact ⟨k4, rfl, N0, rfl, Or.inr ⟨fun q => absurd (q.symm.trans hc113) (by decide), B11⟩⟩
          · refine own_st (S' := s₁.setTop (mkF m 46 #[.val (.int n1)] [(.int (5 : Int32)), (.int n1)])) (fun _ k => XS.icmpYes X0.here hx rfl (pc0 := 37) (pc' := 44) rfl (hb hby own_d_method_4_code_37) rfl (feq hc113).2 (by decide) (by decide) (XS.iloadN X0.here hx rfl (hb hby own_d_method_4_code_44) rfl (XS.iconst X0.here hx rfl (hb hby own_d_method_4_code_45) k))) ?_
            by_cases hc116 : n1 = (5 : Int32)
            · refine own_st (S' := s₁.setTop (mkF m 49 #[.val (.int n1)] [])) (fun _ k => XS.icmpNo X0.here hx rfl (hb hby own_d_method_4_code_46) rfl (teq hc116).2 k) ?_
              have S117 : Sta Z h0 "com/example/librow/librow/QueryLexer$Kind" "SYMBOL" "Lcom/example/librow/librow/QueryLexer$Kind;" (.ref k5) := (B5.ext XO.2)
              obtain ⟨T118, X118, e118, st118⟩ := getS2 X0 hx hZ hown (host := "") (Or.inl (hw _ own_w81)) Via.refl e0 S117 (g := (mkF m 49 #[.val (.int n1)] [])) rfl (hb hby own_d_method_4_code_49)
              refine own_st (S' := T118.setTop (mkF m 52 #[.val (.int n1)] [(.ref k5)])) st118 ?_
              refine own_ret X118 hx Bd.returns hlk rfl (Or.inr (Or.inr (Or.inr (Or.inr ⟨rfl, rfl, rfl⟩)))) (hb hby own_d_method_4_code_52) (by decide) (by decide) ?_
              rw [e118]
              exact ⟨k5, rfl, N0, rfl, Or.inl ⟨hc116, rfl⟩⟩
            · refine own_st (S' := s₁.setTop (mkF m 53 #[.val (.int n1)] [])) (fun _ k => XS.icmpYes X0.here hx rfl (pc0 := 46) (pc' := 53) rfl (hb hby own_d_method_4_code_46) rfl (feq hc116).2 (by decide) (by decide) k) ?_
              have S119 : Sta Z h0 "com/example/librow/librow/QueryLexer$Kind" "END" "Lcom/example/librow/librow/QueryLexer$Kind;" (.ref k6) := (B6.ext XO.2)
              obtain ⟨T120, X120, e120, st120⟩ := getS2 X0 hx hZ hown (host := "") (Or.inl (hw _ own_w79)) Via.refl e0 S119 (g := (mkF m 53 #[.val (.int n1)] [])) rfl (hb hby own_d_method_4_code_53)
              refine own_st (S' := T120.setTop (mkF m 56 #[.val (.int n1)] [(.ref k6)])) st120 ?_
              refine own_ret X120 hx Bd.returns hlk rfl (Or.inr (Or.inr (Or.inr (Or.inr ⟨rfl, rfl, rfl⟩)))) (hb hby own_d_method_4_code_56) (by decide) (by decide) ?_
              rw [e120]
              exact ⟨k6, rfl, N0, rfl, Or.inr ⟨hc116, B12⟩⟩
def own_Q_rec (Z : State) (h0 : Heap) (n0 : Nat) (v : Option Value) (h : Heap) (L : List Loc) : Prop := v = none ∧ Fr n0 L ∧ h = h0
theorem own_ef_rec (m : MethodId) (x0 : Addr) : entryFrame m #[(.ref x0)] 1 = mkF m 0 #[.val (.ref x0)] [] := by first | (simp [entryFrame, mkF, argsToLocals, Value.category, maxLocals]; done) | rfl
set_option maxRecDepth 65536 in
set_option maxHeartbeats 40000000 in
theorem own_rm_rec (l : Launch) (Z : State) (a0 : Array Value) (hw : ∀ d ∈ tables_1, d.before a0 Z = true) (G1 : Int32) (S1 : Sta Z Z.heap "java/lang/String" "COMPACT_STRINGS" "Z" (.int G1)) (P1 : ¬ G1 = 0) (hCH : Jvm.Lit.constHeld Z "java/lang/String" 7) (hCW : Jvm.Lit.compactW.before a0 Z = true) (k0 k1 k2 k3 k4 k5 k6 : Addr) (B : own_Sta Z k0 k1 k2 k3 k4 k5 k6) (ws : List Jvm.Cond) (x0 : Addr) (h0 : Heap) (n0 : Nat) (Z0 : n0 ≤ h0.size) (XO : Old Z n0 h0) :
    MetFree l (⟨"java/lang/Record", "<init>", "()V"⟩ : MethodName) (head1 (Jvm.Cond.code (⟨"java/lang/Record", "<init>", "()V"⟩ : MethodName) jdk_30_method_1_code 1 (none) :: ws) ({ frames := 1, cells := 0, slots := 0, locals := 12 } : Room)) (fun a U => a = #[(.ref x0)] ∧ Z.Warmed39 U.vm ∧ U.heap = h0) (fun _ _ _ _ _ => True) (fun _ U o U' => ∃ v L, o = .returned v ∧ (own_Q_rec Z h0 n0) v U'.heap L ∧ FrameEnd U o U' L ({ frames := 1, cells := 0, slots := 0, locals := 12 } : Room).cells ({ frames := 1, cells := 0, slots := 0, locals := 12 } : Room).slots) := by
  refine MetFree.of_bodySF (plainFor_of_name own_pn2) hisR ?_
  intro p e s m args below meth c s₁ Bd hml0 hP hK
  obtain ⟨rfl, hZ, hh⟩ := hP
  have hx := Bd.exec
  have hby := Bd.bytes
  have hlk : meth.locks = false := BodyLoose.notSynchronized Bd
  have hml : c.maxLocals = 1 := hml0
  have hown : s.vm.findClass "java/lang/Record" = some m.cls := findClass_of_methodNamed Bd.named
  have hnm := (name_of_methodNamed Bd.named Bd.method).1
  have X0 : Stand p l e ({ frames := 1, cells := 0, slots := 0, locals := 12 } : Room) s m #[(.ref x0)] below meth c s₁ [] 0 0 := Stand.of_body Bd
  have e0 : s₁.heap = h0 := by rw [← hh, Bd.state]; rfl
  have N0 := Fr.nil n0
  show own_Fin p e below (s₁.setTop (entryFrame m #[(.ref x0)] 1)) (own_End s ((own_Q_rec Z h0 n0)) ({ frames := 1, cells := 0, slots := 0, locals := 12 } : Room).cells ({ frames := 1, cells := 0, slots := 0, locals := 12 } : Room).slots)
  refine own_st (S' := s₁.setTop (mkF m 0 #[.val (.ref x0)] [])) (fun _ k => castTop (own_ef_rec m x0) k) ?_
  refine own_st (S' := s₁.setTop (mkF m 1 #[.val (.ref x0)] [(.ref x0)])) (fun _ k => XS.aloadN X0.here hx rfl (hb hby own_d_jdk_30_method_1_code_0) rfl rfl k) ?_
  obtain ⟨T101, X101, e101, st101⟩ := initO X0 hx hZ hown (hw _ own_w55) (hw _ own_w17) (hw _ own_w18) e0 (g := (mkF m 1 #[.val (.ref x0)] [(.ref x0)])) rfl (by rw [hml]; rfl) rfl (hb hby own_d_jdk_30_method_1_code_1) (by decide) (W := 0) (by show 2 * 0 + _ ≤ _; exact Nat.le_of_eq rfl) (by decide)
  refine own_st (S' := T101.setTop (mkF m 4 #[.val (.ref x0)] [])) st101 ?_
  refine own_ret0 X101 hx Bd.returns hlk (hb hby own_d_jdk_30_method_1_code_4) (by decide) (by decide) ?_
  rw [e101]
  exact ⟨rfl, N0, rfl⟩
def own_Q_tok (Z : State) (x0 r1 r2 : Addr) (h0 : Heap) (n0 : Nat) (v : Option Value) (h : Heap) (L : List Loc) : Prop := v = none ∧ Fr n0 L ∧ Keep h0 h [x0] ∧ Fld Z h x0 "com/example/librow/librow/QueryLexer$Token" "kind" "Lcom/example/librow/librow/QueryLexer$Kind;" (.ref r1) ∧ Fld Z h x0 "com/example/librow/librow/QueryLexer$Token" "text" "Ljava/lang/String;" (.ref r2)
theorem own_ef_tok (m : MethodId) (x0 : Addr) (r1 : Addr) (r2 : Addr) (i1 : Int32) (i2 : Int32) : entryFrame m #[(.ref x0), (.ref r1), (.ref r2), (.int i1), (.int i2)] 5 = mkF m 0 #[.val (.ref x0), .val (.ref r1), .val (.ref r2), .val (.int i1), .val (.int i2)] [] := by first | (simp [entryFrame, mkF, argsToLocals, Value.category, maxLocals]; done) | rfl
set_option maxRecDepth 65536 in
set_option maxHeartbeats 40000000 in
theorem own_rm_tok (l : Launch) (Z : State) (a0 : Array Value) (hw : ∀ d ∈ tables_1, d.before a0 Z = true) (G1 : Int32) (S1 : Sta Z Z.heap "java/lang/String" "COMPACT_STRINGS" "Z" (.int G1)) (P1 : ¬ G1 = 0) (hCH : Jvm.Lit.constHeld Z "java/lang/String" 7) (hCW : Jvm.Lit.compactW.before a0 Z = true) (k0 k1 k2 k3 k4 k5 k6 : Addr) (B : own_Sta Z k0 k1 k2 k3 k4 k5 k6) (ws : List Jvm.Cond) (x0 r1 r2 : Addr) (i1 i2 : Int32) (h0 : Heap) (n0 : Nat) (Z0 : n0 ≤ h0.size) (XO : Old Z n0 h0) (g0 : n0 ≤ x0) (E1 : Exa Z h0 x0 "com/example/librow/librow/QueryLexer$Token") (F_kind : Fld Z h0 x0 "com/example/librow/librow/QueryLexer$Token" "kind" "Lcom/example/librow/librow/QueryLexer$Kind;" .null) (F_text : Fld Z h0 x0 "com/example/librow/librow/QueryLexer$Token" "text" "Ljava/lang/String;" .null) (F_position : Fld Z h0 x0 "com/example/librow/librow/QueryLexer$Token" "position" "I" (.int (0 : Int32))) (F_end : Fld Z h0 x0 "com/example/librow/librow/QueryLexer$Token" "end" "I" (.int (0 : Int32))) :
    MetFree l (⟨"com/example/librow/librow/QueryLexer$Token", "<init>", "(Lcom/example/librow/librow/QueryLexer$Kind;Ljava/lang/String;II)V"⟩ : MethodName) (head1 (Jvm.Cond.code (⟨"com/example/librow/librow/QueryLexer$Token", "<init>", "(Lcom/example/librow/librow/QueryLexer$Kind;Ljava/lang/String;II)V"⟩ : MethodName) prog_11_method_1_code 5 (none) :: ws) ({ frames := 2, cells := 0, slots := 0, locals := 24 } : Room)) (fun a U => a = #[(.ref x0), (.ref r1), (.ref r2), (.int i1), (.int i2)] ∧ Z.Warmed39 U.vm ∧ U.heap = h0) (fun _ _ _ _ _ => True) (fun _ U o U' => ∃ v L, o = .returned v ∧ (own_Q_tok Z x0 r1 r2 h0 n0) v U'.heap L ∧ FrameEnd U o U' L ({ frames := 2, cells := 0, slots := 0, locals := 24 } : Room).cells ({ frames := 2, cells := 0, slots := 0, locals := 24 } : Room).slots) := by
  refine MetFree.of_bodySF (plainFor_of_name own_pn3) hisR ?_
  intro p e s m args below meth c s₁ Bd hml0 hP hK
  obtain ⟨rfl, hZ, hh⟩ := hP
  have hx := Bd.exec
  have hby := Bd.bytes
  have hlk : meth.locks = false := BodyLoose.notSynchronized Bd
  have hml : c.maxLocals = 5 := hml0
  have hown : s.vm.findClass "com/example/librow/librow/QueryLexer$Token" = some m.cls := findClass_of_methodNamed Bd.named
  have hnm := (name_of_methodNamed Bd.named Bd.method).1
  have X0 : Stand p l e ({ frames := 2, cells := 0, slots := 0, locals := 24 } : Room) s m #[(.ref x0), (.ref r1), (.ref r2), (.int i1), (.int i2)] below meth c s₁ [] 0 0 := Stand.of_body Bd
  have e0 : s₁.heap = h0 := by rw [← hh, Bd.state]; rfl
  have N0 := Fr.nil n0
  show own_Fin p e below (s₁.setTop (entryFrame m #[(.ref x0), (.ref r1), (.ref r2), (.int i1), (.int i2)] 5)) (own_End s ((own_Q_tok Z x0 r1 r2 h0 n0)) ({ frames := 2, cells := 0, slots := 0, locals := 24 } : Room).cells ({ frames := 2, cells := 0, slots := 0, locals := 24 } : Room).slots)
  refine own_st (S' := s₁.setTop (mkF m 0 #[.val (.ref x0), .val (.ref r1), .val (.ref r2), .val (.int i1), .val (.int i2)] [])) (fun _ k => castTop (own_ef_tok m x0 r1 r2 i1 i2) k) ?_
  refine own_st (S' := s₁.setTop (mkF m 1 #[.val (.ref x0), .val (.ref r1), .val (.ref r2), .val (.int i1), .val (.int i2)] [(.ref x0)])) (fun _ k => XS.aloadN X0.here hx rfl (hb hby own_d_prog_11_method_1_code_0) rfl rfl k) ?_
  obtain ⟨_, _, ⟨T101, L101, k101, n101⟩, -, X101, ⟨Lc101, hQ101, l101, y101, z101⟩, st101⟩ := X0.specialBack hx (y := (⟨"java/lang/Record", "<init>", "()V"⟩ : MethodName)) rfl hown (mvT hZ (hw _ own_w50)) (mvT hZ (hw _ own_w51)) (mvT hZ (hw _ own_w54)) (by decide) (backOf (W := 0) (own_rm_rec l Z a0 hw G1 S1 P1 hCH hCW k0 k1 k2 k3 k4 k5 k6 B [] x0 h0 n0 (Nat.le_trans Z0 (Nat.le_refl _)) XO ) hZ (hw _ own_w54) (hw _ own_w53) (by decide) (by decide)) (g := (mkF m 1 #[.val (.ref x0), .val (.ref r1), .val (.ref r2), .val (.int i1), .val (.int i2)] [(.ref x0)])) rfl (by rw [hml]; rfl) (Steps.refl _) (a := x0) (argsL := []) (rest := []) (lenOf own_pd2 rfl) rfl (by show 2 * 0 + _ ≤ _; exact Nat.le_of_eq rfl) (hb hby own_d_prog_11_method_1_code_1) (fun _ _ => ⟨rfl, e0, (by decide : 0 + 0 ≤ _), (by decide : 0 + 0 ≤ _)⟩)
  dsimp only [Pt.U, Pt.locs, Pt.cells, Pt.slots] at X101 l101 y101 z101 st101 hQ101
  subst l101 y101 z101
  obtain ⟨rfl, M101, e101⟩ := hQ101
  have N101 := Fr.app N0 M101
  refine own_tr (S' := T101.setTop (mkF m 4 #[.val (.ref x0), .val (.ref r1), .val (.ref r2), .val (.int i1), .val (.int i2)] [])) st101 ?_
  refine own_st (S' := T101.setTop (mkF m 6 #[.val (.ref x0), .val (.ref r1), .val (.ref r2), .val (.int i1), .val (.int i2)] [(.ref r1), (.ref x0)])) (fun _ k => XS.aloadN X101.here hx rfl (hb hby own_d_prog_11_method_1_code_4) rfl rfl (XS.aloadN X101.here hx rfl (hb hby own_d_prog_11_method_1_code_5) rfl rfl k)) ?_
  obtain ⟨T102, h102, X102, e102, W102, st102⟩ := putF X101 hx hZ hown (host := "") (Or.inl (hw _ own_w56)) Via.refl e101 F_kind E1 (Or.inr ⟨(hw _ own_w57), rfl, hnm⟩) (hw _ own_w39) (ty := (.object "com/example/librow/librow/QueryLexer$Kind")) (by decide) rfl rfl (g := (mkF m 6 #[.val (.ref x0), .val (.ref r1), .val (.ref r2), .val (.int i1), .val (.int i2)] [(.ref r1), (.ref x0)])) rfl rfl (hb hby own_d_prog_11_method_1_code_6)
  have N102 := Fr.snoc X102 N101 g0
  refine own_st (S' := T102.setTop (mkF m 9 #[.val (.ref x0), .val (.ref r1), .val (.ref r2), .val (.int i1), .val (.int i2)] [])) st102 ?_
  refine own_st (S' := T102.setTop (mkF m 11 #[.val (.ref x0), .val (.ref r1), .val (.ref r2), .val (.int i1), .val (.int i2)] [(.ref r2), (.ref x0)])) (fun _ k => XS.aloadN X102.here hx rfl (hb hby own_d_prog_11_method_1_code_9) rfl rfl (XS.aloadN X102.here hx rfl (hb hby own_d_prog_11_method_1_code_10) rfl rfl k)) ?_
  have F103 : Fld Z h102 x0 "com/example/librow/librow/QueryLexer$Token" "text" "Ljava/lang/String;" .null := (F_text.other W102 (Or.inr (slot_ne (Or.inr (hw _ own_w59)) (Or.inr (hw _ own_w57)) (by decide) (t := (.object "java/lang/String")) (t' := (.object "com/example/librow/librow/QueryLexer$Kind")) (by decide) (by decide))))
  have A104 : Exa Z h102 x0 "com/example/librow/librow/QueryLexer$Token" := (E1.wr W102)
  obtain ⟨T105, h105, X105, e105, W105, st105⟩ := putF X102 hx hZ hown (host := "") (Or.inl (hw _ own_w58)) Via.refl e102 F103 A104 (Or.inr ⟨(hw _ own_w59), rfl, hnm⟩) (hw _ own_w39) (ty := (.object "java/lang/String")) (by decide) rfl rfl (g := (mkF m 11 #[.val (.ref x0), .val (.ref r1), .val (.ref r2), .val (.int i1), .val (.int i2)] [(.ref r2), (.ref x0)])) rfl rfl (hb hby own_d_prog_11_method_1_code_11)
  have N105 := Fr.snoc X105 N102 g0
  refine own_st (S' := T105.setTop (mkF m 14 #[.val (.ref x0), .val (.ref r1), .val (.ref r2), .val (.int i1), .val (.int i2)] [])) st105 ?_
  refine own_st (S' := T105.setTop (mkF m 16 #[.val (.ref x0), .val (.ref r1), .val (.ref r2), .val (.int i1), .val (.int i2)] [(.int i1), (.ref x0)])) (fun _ k => XS.aloadN X105.here hx rfl (hb hby own_d_prog_11_method_1_code_14) rfl rfl (XS.iloadN X105.here hx rfl (hb hby own_d_prog_11_method_1_code_15) rfl k)) ?_
  have F106 : Fld Z h105 x0 "com/example/librow/librow/QueryLexer$Token" "position" "I" (.int (0 : Int32)) := ((F_position.other W102 (Or.inr (slot_ne (Or.inr (hw _ own_w61)) (Or.inr (hw _ own_w57)) (by decide) (t := .int) (t' := (.object "com/example/librow/librow/QueryLexer$Kind")) (by decide) (by decide)))).other W105 (Or.inr (slot_ne (Or.inr (hw _ own_w61)) (Or.inr (hw _ own_w59)) (by decide) (t := .int) (t' := (.object "java/lang/String")) (by decide) (by decide))))
  have A107 : Exa Z h105 x0 "com/example/librow/librow/QueryLexer$Token" := (A104.wr W105)
  obtain ⟨T108, h108, X108, e108, W108, st108⟩ := putF X105 hx hZ hown (host := "") (Or.inl (hw _ own_w60)) Via.refl e105 F106 A107 (Or.inr ⟨(hw _ own_w61), rfl, hnm⟩) (hw _ own_w39) (ty := .int) (by decide) rfl rfl (g := (mkF m 16 #[.val (.ref x0), .val (.ref r1), .val (.ref r2), .val (.int i1), .val (.int i2)] [(.int i1), (.ref x0)])) rfl rfl (hb hby own_d_prog_11_method_1_code_16)
  have N108 := Fr.snoc X108 N105 g0
  refine own_st (S' := T108.setTop (mkF m 19 #[.val (.ref x0), .val (.ref r1), .val (.ref r2), .val (.int i1), .val (.int i2)] [])) st108 ?_
  refine own_st (S' := T108.setTop (mkF m 22 #[.val (.ref x0), .val (.ref r1), .val (.ref r2), .val (.int i1), .val (.int i2)] [(.int i2), (.ref x0)])) (fun _ k => XS.aloadN X108.here hx rfl (hb hby own_d_prog_11_method_1_code_19) rfl rfl (XS.iload X108.here hx rfl (hb hby own_d_prog_11_method_1_code_20) rfl k)) ?_
  have F109 : Fld Z h108 x0 "com/example/librow/librow/QueryLexer$Token" "end" "I" (.int (0 : Int32)) := (((F_end.other W102 (Or.inr (slot_ne (Or.inr (hw _ own_w63)) (Or.inr (hw _ own_w57)) (by decide) (t := .int) (t' := (.object "com/example/librow/librow/QueryLexer$Kind")) (by decide) (by decide)))).other W105 (Or.inr (slot_ne (Or.inr (hw _ own_w63)) (Or.inr (hw _ own_w59)) (by decide) (t := .int) (t' := (.object "java/lang/String")) (by decide) (by decide)))).other W108 (Or.inr (slot_ne (Or.inr (hw _ own_w63)) (Or.inr (hw _ own_w61)) (by decide) (t := .int) (t' := .int) (by decide) (by decide))))
  have A110 : Exa Z h108 x0 "com/example/librow/librow/QueryLexer$Token" := (A107.wr W108)
  obtain ⟨T111, h111, X111, e111, W111, st111⟩ := putF X108 hx hZ hown (host := "") (Or.inl (hw _ own_w62)) Via.refl e108 F109 A110 (Or.inr ⟨(hw _ own_w63), rfl, hnm⟩) (hw _ own_w39) (ty := .int) (by decide) rfl rfl (g := (mkF m 22 #[.val (.ref x0), .val (.ref r1), .val (.ref r2), .val (.int i1), .val (.int i2)] [(.int i2), (.ref x0)])) rfl rfl (hb hby own_d_prog_11_method_1_code_22)
  have N111 := Fr.snoc X111 N108 g0
  refine own_st (S' := T111.setTop (mkF m 25 #[.val (.ref x0), .val (.ref r1), .val (.ref r2), .val (.int i1), .val (.int i2)] [])) st111 ?_
  have F112 : Fld Z h111 x0 "com/example/librow/librow/QueryLexer$Token" "kind" "Lcom/example/librow/librow/QueryLexer$Kind;" (.ref r1) := ((((F_kind.same W102).other W105 (Or.inr (slot_ne (Or.inr (hw _ own_w57)) (Or.inr (hw _ own_w59)) (by decide) (t := (.object "com/example/librow/librow/QueryLexer$Kind")) (t' := (.object "java/lang/String")) (by decide) (by decide)))).other W108 (Or.inr (slot_ne (Or.inr (hw _ own_w57)) (Or.inr (hw _ own_w61)) (by decide) (t := (.object "com/example/librow/librow/QueryLexer$Kind")) (t' := .int) (by decide) (by decide)))).other W111 (Or.inr (slot_ne (Or.inr (hw _ own_w57)) (Or.inr (hw _ own_w63)) (by decide) (t := (.object "com/example/librow/librow/QueryLexer$Kind")) (t' := .int) (by decide) (by decide))))
  have F113 : Fld Z h111 x0 "com/example/librow/librow/QueryLexer$Token" "text" "Ljava/lang/String;" (.ref r2) := (((F103.same W105).other W108 (Or.inr (slot_ne (Or.inr (hw _ own_w59)) (Or.inr (hw _ own_w61)) (by decide) (t := (.object "java/lang/String")) (t' := .int) (by decide) (by decide)))).other W111 (Or.inr (slot_ne (Or.inr (hw _ own_w59)) (Or.inr (hw _ own_w63)) (by decide) (t := (.object "java/lang/String")) (t' := .int) (by decide) (by decide))))
  refine own_ret0 X111 hx Bd.returns hlk (hb hby own_d_prog_11_method_1_code_25) (by decide) (by decide) ?_
  rw [e111]
  exact ⟨rfl, N111, (((((Keep.refl _ _).wr W102 (Or.inl (List.mem_of_getElem? (i := 0) rfl))).wr W105 (Or.inl (List.mem_of_getElem? (i := 0) rfl))).wr W108 (Or.inl (List.mem_of_getElem? (i := 0) rfl))).wr W111 (Or.inl (List.mem_of_getElem? (i := 0) rfl))), F112, F113⟩
def own_Q_isn (Z : State) (h0 : Heap) (n0 : Nat) (v : Option Value) (h : Heap) (L : List Loc) : Prop := v = some (.int 0) ∧ Fr n0 L ∧ h = h0
theorem own_ef_isn (m : MethodId) (x0 : Addr) (y0 : Addr) : entryFrame m #[(.ref x0), (.ref y0)] 2 = mkF m 0 #[.val (.ref x0), .val (.ref y0)] [] := by first | (simp [entryFrame, mkF, argsToLocals, Value.category, maxLocals]; done) | rfl
set_option maxRecDepth 65536 in
set_option maxHeartbeats 40000000 in
theorem own_rm_isn (l : Launch) (Z : State) (a0 : Array Value) (hw : ∀ d ∈ tables_1, d.before a0 Z = true) (G1 : Int32) (S1 : Sta Z Z.heap "java/lang/String" "COMPACT_STRINGS" "Z" (.int G1)) (P1 : ¬ G1 = 0) (hCH : Jvm.Lit.constHeld Z "java/lang/String" 7) (hCW : Jvm.Lit.compactW.before a0 Z = true) (k0 k1 k2 k3 k4 k5 k6 : Addr) (B : own_Sta Z k0 k1 k2 k3 k4 k5 k6) (ws : List Jvm.Cond) (x0 y0 r1 : Addr) (h0 : Heap) (n0 : Nat) (Z0 : n0 ≤ h0.size) (XO : Old Z n0 h0) (F1 : Fld Z h0 x0 "com/example/librow/librow/QueryLexer$Token" "kind" "Lcom/example/librow/librow/QueryLexer$Kind;" (.ref r1)) (hne : r1 ≠ k5) :
    MetFree l (⟨"com/example/librow/librow/QueryLexer$Token", "isSymbol", "(Ljava/lang/String;)Z"⟩ : MethodName) (head1 (Jvm.Cond.code (⟨"com/example/librow/librow/QueryLexer$Token", "isSymbol", "(Ljava/lang/String;)Z"⟩ : MethodName) prog_11_method_3_code 2 (some .boolean) :: ws) ({ frames := 0, cells := 0, slots := 0, locals := 0 } : Room)) (fun a U => a = #[(.ref x0), (.ref y0)] ∧ Z.Warmed39 U.vm ∧ U.heap = h0) (fun _ _ _ _ _ => True) (fun _ U o U' => ∃ v L, o = .returned v ∧ (own_Q_isn Z h0 n0) v U'.heap L ∧ FrameEnd U o U' L ({ frames := 0, cells := 0, slots := 0, locals := 0 } : Room).cells ({ frames := 0, cells := 0, slots := 0, locals := 0 } : Room).slots) := by
  refine MetFree.of_bodySF (plainFor_of_name own_pn3) hisR ?_
  intro p e s m args below meth c s₁ Bd hml0 hP hK
  obtain ⟨rfl, hZ, hh⟩ := hP
  have hx := Bd.exec
  have hby := Bd.bytes
  have hlk : meth.locks = false := BodyLoose.notSynchronized Bd
  have hml : c.maxLocals = 2 := hml0
  have hown : s.vm.findClass "com/example/librow/librow/QueryLexer$Token" = some m.cls := findClass_of_methodNamed Bd.named
  have hnm := (name_of_methodNamed Bd.named Bd.method).1
  have X0 : Stand p l e ({ frames := 0, cells := 0, slots := 0, locals := 0 } : Room) s m #[(.ref x0), (.ref y0)] below meth c s₁ [] 0 0 := Stand.of_body Bd
  have e0 : s₁.heap = h0 := by rw [← hh, Bd.state]; rfl
  have N0 := Fr.nil n0
  show own_Fin p e below (s₁.setTop (entryFrame m #[(.ref x0), (.ref y0)] 2)) (own_End s ((own_Q_isn Z h0 n0)) ({ frames := 0, cells := 0, slots := 0, locals := 0 } : Room).cells ({ frames := 0, cells := 0, slots := 0, locals := 0 } : Room).slots)
  refine own_st (S' := s₁.setTop (mkF m 0 #[.val (.ref x0), .val (.ref y0)] [])) (fun _ k => castTop (own_ef_isn m x0 y0) k) ?_
  obtain ⟨B0, B1, B2, B3, B4, B5, B6, B7, B8, B9, B10, B11, B12⟩ := id B
  refine own_st (S' := s₁.setTop (mkF m 1 #[.val (.ref x0), .val (.ref y0)] [(.ref x0)])) (fun _ k => XS.aloadN X0.here hx rfl (hb hby own_d_prog_11_method_3_code_0) rfl rfl k) ?_
  obtain ⟨T101, X101, e101, st101⟩ := getF X0 hx hZ hown (host := "") (Or.inl (hw _ own_w56)) Via.refl e0 F1 (g := (mkF m 1 #[.val (.ref x0), .val (.ref y0)] [(.ref x0)])) rfl rfl (hb hby own_d_prog_11_method_3_code_1)
  refine own_st (S' := T101.setTop (mkF m 4 #[.val (.ref x0), .val (.ref y0)] [(.ref r1)])) st101 ?_
  have S102 : Sta Z h0 "com/example/librow/librow/QueryLexer$Kind" "SYMBOL" "Lcom/example/librow/librow/QueryLexer$Kind;" (.ref k5) := (B5.ext XO.2)
  obtain ⟨T103, X103, e103, st103⟩ := getS2 X101 hx hZ hown (host := "") (Or.inl (hw _ own_w69)) Via.refl e101 S102 (g := (mkF m 4 #[.val (.ref x0), .val (.ref y0)] [(.ref r1)])) rfl (hb hby own_d_prog_11_method_3_code_4)
  refine own_st (S' := T103.setTop (mkF m 7 #[.val (.ref x0), .val (.ref y0)] [(.ref k5), (.ref r1)])) st103 ?_
  refine own_st (S' := T103.setTop (mkF m 25 #[.val (.ref x0), .val (.ref y0)] [])) (fun _ k => Jvm.RoadKit.acmp (g := (mkF m 7 #[.val (.ref x0), .val (.ref y0)] [(.ref k5), (.ref r1)])) X103 hx rfl rfl rfl (pc0 := 7) (pc' := 25) (same := false) rfl (hb hby own_d_prog_11_method_3_code_7) rfl (decide_eq_false fun q => hne (Value.ref.inj q)) (by decide) (by decide) k) ?_
  refine own_st (S' := T103.setTop (mkF m 26 #[.val (.ref x0), .val (.ref y0)] [(.int (0 : Int32))])) (fun _ k => XS.iconst X103.here hx rfl (hb hby own_d_prog_11_method_3_code_25) k) ?_
  refine own_ret X103 hx Bd.returns hlk rfl (Or.inl ⟨rfl, (by simp), _, rfl⟩) (hb hby own_d_prog_11_method_3_code_26) (by decide) (by decide) ?_
  rw [e103]
  exact ⟨rfl, N0, rfl⟩
def own_Q_isy (Z : State) (cs ds : List Int32) (h0 : Heap) (n0 : Nat) (v : Option Value) (h : Heap) (L : List Loc) : Prop := ((v = some (.int 1) ∧ cs = ds) ∨ (v = some (.int 0) ∧ ¬ cs = ds)) ∧ Fr n0 L ∧ h = h0
theorem own_ef_isy (m : MethodId) (x0 : Addr) (y0 : Addr) : entryFrame m #[(.ref x0), (.ref y0)] 2 = mkF m 0 #[.val (.ref x0), .val (.ref y0)] [] := by first | (simp [entryFrame, mkF, argsToLocals, Value.category, maxLocals]; done) | rfl
set_option maxRecDepth 65536 in
set_option maxHeartbeats 40000000 in
theorem own_rm_isy (l : Launch) (Z : State) (a0 : Array Value) (hw : ∀ d ∈ tables_1, d.before a0 Z = true) (G1 : Int32) (S1 : Sta Z Z.heap "java/lang/String" "COMPACT_STRINGS" "Z" (.int G1)) (P1 : ¬ G1 = 0) (hCH : Jvm.Lit.constHeld Z "java/lang/String" 7) (hCW : Jvm.Lit.compactW.before a0 Z = true) (k0 k1 k2 k3 k4 k5 k6 : Addr) (B : own_Sta Z k0 k1 k2 k3 k4 k5 k6) (ws : List Jvm.Cond) (x0 y0 r2 : Addr) (cs ds : List Int32) (h0 : Heap) (n0 : Nat) (Z0 : n0 ≤ h0.size) (XO : Old Z n0 h0) (F1 : Fld Z h0 x0 "com/example/librow/librow/QueryLexer$Token" "kind" "Lcom/example/librow/librow/QueryLexer$Kind;" (.ref k5)) (F2 : Fld Z h0 x0 "com/example/librow/librow/QueryLexer$Token" "text" "Ljava/lang/String;" (.ref r2)) (Y1 : own_Str Z h0 r2 cs) (Y2 : own_Str Z h0 y0 ds) :
    MetFree l (⟨"com/example/librow/librow/QueryLexer$Token", "isSymbol", "(Ljava/lang/String;)Z"⟩ : MethodName) (head1 (Jvm.Cond.code (⟨"com/example/librow/librow/QueryLexer$Token", "isSymbol", "(Ljava/lang/String;)Z"⟩ : MethodName) prog_11_method_3_code 2 (some .boolean) :: ws) ({ frames := 2, cells := 0, slots := 0, locals := 28 } : Room)) (fun a U => a = #[(.ref x0), (.ref y0)] ∧ Z.Warmed39 U.vm ∧ U.heap = h0) (fun _ _ _ _ _ => True) (fun _ U o U' => ∃ v L, o = .returned v ∧ (own_Q_isy Z cs ds h0 n0) v U'.heap L ∧ FrameEnd U o U' L ({ frames := 2, cells := 0, slots := 0, locals := 28 } : Room).cells ({ frames := 2, cells := 0, slots := 0, locals := 28 } : Room).slots) := by
  refine MetFree.of_bodySF (plainFor_of_name own_pn3) hisR ?_
  intro p e s m args below meth c s₁ Bd hml0 hP hK
  obtain ⟨rfl, hZ, hh⟩ := hP
  have hx := Bd.exec
  have hby := Bd.bytes
  have hlk : meth.locks = false := BodyLoose.notSynchronized Bd
  have hml : c.maxLocals = 2 := hml0
  have hown : s.vm.findClass "com/example/librow/librow/QueryLexer$Token" = some m.cls := findClass_of_methodNamed Bd.named
  have hnm := (name_of_methodNamed Bd.named Bd.method).1
  have X0 : Stand p l e ({ frames := 2, cells := 0, slots := 0, locals := 28 } : Room) s m #[(.ref x0), (.ref y0)] below meth c s₁ [] 0 0 := Stand.of_body Bd
  have e0 : s₁.heap = h0 := by rw [← hh, Bd.state]; rfl
  have N0 := Fr.nil n0
  show own_Fin p e below (s₁.setTop (entryFrame m #[(.ref x0), (.ref y0)] 2)) (own_End s ((own_Q_isy Z cs ds h0 n0)) ({ frames := 2, cells := 0, slots := 0, locals := 28 } : Room).cells ({ frames := 2, cells := 0, slots := 0, locals := 28 } : Room).slots)
  refine own_st (S' := s₁.setTop (mkF m 0 #[.val (.ref x0), .val (.ref y0)] [])) (fun _ k => castTop (own_ef_isy m x0 y0) k) ?_
  obtain ⟨B0, B1, B2, B3, B4, B5, B6, B7, B8, B9, B10, B11, B12⟩ := id B
  refine own_st (S' := s₁.setTop (mkF m 1 #[.val (.ref x0), .val (.ref y0)] [(.ref x0)])) (fun _ k => XS.aloadN X0.here hx rfl (hb hby own_d_prog_11_method_3_code_0) rfl rfl k) ?_
  obtain ⟨T101, X101, e101, st101⟩ := getF X0 hx hZ hown (host := "") (Or.inl (hw _ own_w56)) Via.refl e0 F1 (g := (mkF m 1 #[.val (.ref x0), .val (.ref y0)] [(.ref x0)])) rfl rfl (hb hby own_d_prog_11_method_3_code_1)
  refine own_st (S' := T101.setTop (mkF m 4 #[.val (.ref x0), .val (.ref y0)] [(.ref k5)])) st101 ?_
  have S102 : Sta Z h0 "com/example/librow/librow/QueryLexer$Kind" "SYMBOL" "Lcom/example/librow/librow/QueryLexer$Kind;" (.ref k5) := (B5.ext XO.2)
  obtain ⟨T103, X103, e103, st103⟩ := getS2 X101 hx hZ hown (host := "") (Or.inl (hw _ own_w69)) Via.refl e101 S102 (g := (mkF m 4 #[.val (.ref x0), .val (.ref y0)] [(.ref k5)])) rfl (hb hby own_d_prog_11_method_3_code_4)
  refine own_st (S' := T103.setTop (mkF m 7 #[.val (.ref x0), .val (.ref y0)] [(.ref k5), (.ref k5)])) st103 ?_
  refine own_st (S' := T103.setTop (mkF m 10 #[.val (.ref x0), .val (.ref y0)] [])) (fun _ k => Jvm.RoadKit.acmp (g := (mkF m 7 #[.val (.ref x0), .val (.ref y0)] [(.ref k5), (.ref k5)])) X103 hx rfl rfl rfl (pc0 := 7) (pc' := 10) (same := true) rfl (hb hby own_d_prog_11_method_3_code_7) rfl (decide_eq_true rfl) (by decide) (by decide) k) ?_
  refine own_st (S' := T103.setTop (mkF m 11 #[.val (.ref x0), .val (.ref y0)] [(.ref x0)])) (fun _ k => XS.aloadN X103.here hx rfl (hb hby own_d_prog_11_method_3_code_10) rfl rfl k) ?_
  obtain ⟨T104, X104, e104, st104⟩ := getF X103 hx hZ hown (host := "") (Or.inl (hw _ own_w58)) Via.refl e103 F2 (g := (mkF m 11 #[.val (.ref x0), .val (.ref y0)] [(.ref x0)])) rfl rfl (hb hby own_d_prog_11_method_3_code_11)
  refine own_st (S' := T104.setTop (mkF m 14 #[.val (.ref x0), .val (.ref y0)] [(.ref r2)])) st104 ?_
  refine own_st (S' := T104.setTop (mkF m 15 #[.val (.ref x0), .val (.ref y0)] [(.ref y0), (.ref r2)])) (fun _ k => XS.aloadN X104.here hx rfl (hb hby own_d_prog_11_method_3_code_14) rfl rfl k) ?_
  have S105 : Sta Z h0 "java/lang/String" "COMPACT_STRINGS" "Z" (.int G1) := (S1.ext XO.2)
  obtain ⟨cq106, kq106, q106a, q106b, q106c⟩ := isOf hZ e104 Y1.exa
  obtain ⟨_, _, ⟨T106, L106, k106, n106⟩, -, X106, ⟨Lc106, hQ106, l106, y106, z106⟩, st106⟩ := X104.virtualBack hx (y := (⟨"java/lang/String", "equals", "(Ljava/lang/Object;)Z"⟩ : MethodName)) (z := (⟨"java/lang/String", "equals", "(Ljava/lang/Object;)Z"⟩ : MethodName)) hown (mvT hZ (hw _ own_w82)) (mvT hZ (hw _ own_w83)) (notFace_of_selects (args := #[]) (mvT hZ (hw _ own_w85))) (mvT hZ (hw _ own_w85)) (mvT hZ (hw _ own_w84)) (by decide) (own_eqB (W := 0) hZ hw Y1 Y2 S105 P1 (by decide) (by decide)) q106a q106c (g := (mkF m 15 #[.val (.ref x0), .val (.ref y0)] [(.ref y0), (.ref r2)])) rfl (by rw [hml]; rfl) (Steps.refl _) (argsL := [(.ref y0)]) (rest := []) (lenOf own_pd3 rfl) rfl (by show 2 * 0 + _ ≤ _; exact Nat.le_of_eq rfl) (hb hby own_d_prog_11_method_3_code_15) (fun _ _ => ⟨rfl, e104, (by decide : 0 + 0 ≤ _), (by decide : 0 + 0 ≤ _)⟩)
  dsimp only [Pt.U, Pt.locs, Pt.cells, Pt.slots] at X106 l106 y106 z106 st106 hQ106
  subst l106 y106 z106
  obtain ⟨hQ106, rfl, e106⟩ := hQ106
  try rw [List.append_nil] at X106
  rcases hQ106 with ⟨rfl, hc106⟩ | ⟨rfl, hc106⟩
  · refine own_tr (S' := T106.setTop (mkF m 18 #[.val (.ref x0), .val (.ref y0)] [(.int (1 : Int32))])) st106 ?_
    refine own_st (S' := T106.setTop (mkF m 26 #[.val (.ref x0), .val (.ref y0)] [(.int (1 : Int32))])) (fun _ k => XS.ifNo X106.here hx rfl (hb hby own_d_prog_11_method_3_code_18) rfl (by decide) (XS.iconst X106.here hx rfl (hb hby own_d_prog_11_method_3_code_21) (XS.goto X106.here hx rfl (pc0 := 22) (pc' := 26) rfl (hb hby own_d_prog_11_method_3_code_22) (by decide) (by decide) k))) ?_
    refine own_ret X106 hx Bd.returns hlk rfl (Or.inl ⟨rfl, (by simp), _, rfl⟩) (hb hby own_d_prog_11_method_3_code_26) (by decide) (by decide) ?_
    rw [e106]
    exact ⟨Or.inl ⟨rfl, hc106⟩, N0, rfl⟩
  · refine own_tr (S' := T106.setTop (mkF m 18 #[.val (.ref x0), .val (.ref y0)] [(.int (0 : Int32))])) st106 ?_
    refine own_st (S' := T106.setTop (mkF m 26 #[.val (.ref x0), .val (.ref y0)] [(.int (0 : Int32))])) (fun _ k => XS.ifYes X106.here hx rfl (pc0 := 18) (pc' := 25) rfl (hb hby own_d_prog_11_method_3_code_18) rfl (by decide) (by decide) (by decide) (XS.iconst X106.here hx rfl (hb hby own_d_prog_11_method_3_code_25) k)) ?_
    refine own_ret X106 hx Bd.returns hlk rfl (Or.inl ⟨rfl, (by simp), _, rfl⟩) (hb hby own_d_prog_11_method_3_code_26) (by decide) (by decide) ?_
    rw [e106]
    exact ⟨Or.inr ⟨rfl, hc106⟩, N0, rfl⟩
def own_Q_law (Z : State) (h0 : Heap) (n0 : Nat) (v : Option Value) (h : Heap) (vm : Vm) (L : List Loc) : Prop := v = some (.int 1) ∧ Fr n0 L
theorem own_ef_law (m : MethodId) (p0 : Int32) (p1 : Int32) (p2 : Int32) (p3 : Int32) (p4 : Int32) (p5 : Int32) : entryFrame m #[(.int p0), (.int p1), (.int p2), (.int p3), (.int p4), (.int p5)] maxLocals = mkF m 0 #[.val (.int p0), .val (.int p1), .val (.int p2), .val (.int p3), .val (.int p4), .val (.int p5), .unset, .unset, .unset, .unset, .unset, .unset, .unset, .unset, .unset, .unset, .unset] [] := by first | (simp [entryFrame, mkF, argsToLocals, Value.category, maxLocals]; done) | rfl
set_option maxRecDepth 65536 in
set_option maxHeartbeats 40000000 in
theorem own_rm_law (l : Launch) (Z : State) (a0 : Array Value) (hw : ∀ d ∈ tables_1, d.before a0 Z = true) (G1 : Int32) (S1 : Sta Z Z.heap "java/lang/String" "COMPACT_STRINGS" "Z" (.int G1)) (P1 : ¬ G1 = 0) (hCH : Jvm.Lit.constHeld Z "java/lang/String" 7) (hCW : Jvm.Lit.compactW.before a0 Z = true) (k0 k1 k2 k3 k4 k5 k6 : Addr) (B : own_Sta Z k0 k1 k2 k3 k4 k5 k6) (ws : List Jvm.Cond) (p0 p1 p2 p3 p4 p5 : Int32) (h0 : Heap) (n0 : Nat) (Z0 : n0 ≤ h0.size) (XO : Old Z n0 h0) :
    MetFree l x (head1 (Jvm.Cond.code x code maxLocals ret :: ws) (room_1 : Room)) (fun a U => a = #[(.int p0), (.int p1), (.int p2), (.int p3), (.int p4), (.int p5)] ∧ Z.Warmed39 U.vm ∧ U.heap = h0 ∧ own_LS Z U.vm h0) (fun _ _ _ _ _ => True) (fun _ U o U' => ∃ v L, o = .returned v ∧ (own_Q_law Z h0 n0) v U'.heap U'.vm L ∧ ReturnedEndW U o U' L 24 1152) := by
  refine MetFree.of_bodySF (plainFor_of_name own_pn1) hisR ?_
  intro p e s m args below meth c s₁ Bd hml0 hP hK
  obtain ⟨rfl, hZ, hh, hLS⟩ := hP
  have hx := Bd.exec
  have hby := Bd.bytes
  have hlk : meth.locks = false := BodyLoose.notSynchronized Bd
  have hml : c.maxLocals = 17 := hml0
  have hown : s.vm.findClass "com/example/librow/librow/TokenIsSymbolPinLaw" = some m.cls := findClass_of_methodNamed Bd.named
  have hnm := (name_of_methodNamed Bd.named Bd.method).1
  have X0 : Stand p l e (room_1 : Room) (s.setVm s.vm) m #[(.int p0), (.int p1), (.int p2), (.int p3), (.int p4), (.int p5)] below meth c s₁ [] 0 0 := Stand.of_body Bd
  have hZ : Z.Warmed39 (s.setVm s.vm).vm := hZ
  have hown : (s.setVm s.vm).vm.findClass "com/example/librow/librow/TokenIsSymbolPinLaw" = some m.cls := hown
  have sn0 : s.Since s.vm 0 := (State.WarmedH.refl s).since 0
  have e0 : s₁.heap = h0 := by rw [← hh, Bd.state]; rfl
  have N0 := Fr.nil n0
  show own_Fin p e below (s₁.setTop (entryFrame m #[(.int p0), (.int p1), (.int p2), (.int p3), (.int p4), (.int p5)] maxLocals)) (own_EndW s ((own_Q_law Z h0 n0)) 24 1152)
  refine own_st (S' := s₁.setTop (mkF m 0 #[.val (.int p0), .val (.int p1), .val (.int p2), .val (.int p3), .val (.int p4), .val (.int p5), .unset, .unset, .unset, .unset, .unset, .unset, .unset, .unset, .unset, .unset, .unset] [])) (fun _ k => castTop (own_ef_law m p0 p1 p2 p3 p4 p5) k) ?_
  obtain ⟨B0, B1, B2, B3, B4, B5, B6, B7, B8, B9, B10, B11, B12⟩ := id B
  refine own_st (S' := s₁.setTop (mkF m 1 #[.val (.int p0), .val (.int p1), .val (.int p2), .val (.int p3), .val (.int p4), .val (.int p5), .unset, .unset, .unset, .unset, .unset, .unset, .unset, .unset, .unset, .unset, .unset] [(.int p0)])) (fun _ k => XS.iloadN X0.here hx rfl (hb hby at_0) rfl k) ?_
  refine own_st (S' := s₁.setTop (mkF m 3 #[.val (.int p0), .val (.int p1), .val (.int p2), .val (.int p3), .val (.int p4), .val (.int p5), .unset, .unset, .unset, .unset, .unset, .unset, .unset, .unset, .unset, .unset, .unset] [(.int (2147483647 : Int32)), (.int p0)])) (X0.ldcInt hx hown (mvT hZ (hw _ own_w0)) (g := (mkF m 1 #[.val (.int p0), .val (.int p1), .val (.int p2), .val (.int p3), .val (.int p4), .val (.int p5), .unset, .unset, .unset, .unset, .unset, .unset, .unset, .unset, .unset, .unset, .unset] [(.int p0)])) rfl (hb hby at_1)) ?_
  refine own_st (S' := s₁.setTop (mkF m 6 #[.val (.int p0), .val (.int p1), .val (.int p2), .val (.int p3), .val (.int p4), .val (.int p5), .unset, .unset, .unset, .unset, .unset, .unset, .unset, .unset, .unset, .unset, .unset] [(.int (7 : Int32)), (.int (p0 &&& (2147483647 : Int32)))])) (fun _ k => XS.iand X0.here hx rfl (hb hby at_3) rfl (XS.bipush X0.here hx rfl (hb hby at_4) k)) ?_
  refine own_st (S' := s₁.setTop (mkF m 7 #[.val (.int p0), .val (.int p1), .val (.int p2), .val (.int p3), .val (.int p4), .val (.int p5), .unset, .unset, .unset, .unset, .unset, .unset, .unset, .unset, .unset, .unset, .unset] [(.int ((p0 &&& (2147483647 : Int32)) % (7 : Int32)))])) (fun _ k => iremM X0 hx rfl (hb hby at_6) rfl (by decide) k) ?_
  refine own_st (S' := s₁.setTop (mkF m 9 #[.val (.int p0), .val (.int p1), .val (.int p2), .val (.int p3), .val (.int p4), .val (.int p5), .val (.int ((p0 &&& (2147483647 : Int32)) % (7 : Int32))), .unset, .unset, .unset, .unset, .unset, .unset, .unset, .unset, .unset, .unset] [])) (fun _ k => XS.istore X0.here hx rfl (hb hby at_7) rfl (l' := #[.val (.int p0), .val (.int p1), .val (.int p2), .val (.int p3), .val (.int p4), .val (.int p5), .val (.int ((p0 &&& (2147483647 : Int32)) % (7 : Int32))), .unset, .unset, .unset, .unset, .unset, .unset, .unset, .unset, .unset, .unset]) rfl k) ?_
  generalize gi101 : ((p0 &&& (2147483647 : Int32)) % (7 : Int32)) = i101
  refine own_st (S' := s₁.setTop (mkF m 15 #[.val (.int p0), .val (.int p1), .val (.int p2), .val (.int p3), .val (.int p4), .val (.int p5), .val (.int i101), .unset, .unset, .unset, .unset, .unset, .unset, .unset, .unset, .unset, .unset] [(.int (3 : Int32)), (.int (p3 &&& (255 : Int32)))])) (fun _ k => XS.iloadN X0.here hx rfl (hb hby at_9) rfl (XS.sipush X0.here hx rfl (hb hby at_10) (XS.iand X0.here hx rfl (hb hby at_13) rfl (XS.iconst X0.here hx rfl (hb hby at_14) k)))) ?_
  refine own_st (S' := s₁.setTop (mkF m 16 #[.val (.int p0), .val (.int p1), .val (.int p2), .val (.int p3), .val (.int p4), .val (.int p5), .val (.int i101), .unset, .unset, .unset, .unset, .unset, .unset, .unset, .unset, .unset, .unset] [(.int ((p3 &&& (255 : Int32)) % (3 : Int32)))])) (fun _ k => iremM X0 hx rfl (hb hby at_15) rfl (by decide) k) ?_
  refine own_st (S' := s₁.setTop (mkF m 18 #[.val (.int p0), .val (.int p1), .val (.int p2), .val (.int p3), .val (.int p4), .val (.int p5), .val (.int i101), .val (.int ((p3 &&& (255 : Int32)) % (3 : Int32))), .unset, .unset, .unset, .unset, .unset, .unset, .unset, .unset, .unset] [])) (fun _ k => XS.istore X0.here hx rfl (hb hby at_16) rfl (l' := #[.val (.int p0), .val (.int p1), .val (.int p2), .val (.int p3), .val (.int p4), .val (.int p5), .val (.int i101), .val (.int ((p3 &&& (255 : Int32)) % (3 : Int32))), .unset, .unset, .unset, .unset, .unset, .unset, .unset, .unset, .unset]) rfl k) ?_
  generalize gi102 : ((p3 &&& (255 : Int32)) % (3 : Int32)) = i102
  refine own_st (S' := s₁.setTop (mkF m 25 #[.val (.int p0), .val (.int p1), .val (.int p2), .val (.int p3), .val (.int p4), .val (.int p5), .val (.int i101), .val (.int i102), .unset, .unset, .unset, .unset, .unset, .unset, .unset, .unset, .unset] [(.int (255 : Int32)), (.int ((p3.toUInt32 >>> ((8 : Int32) &&& 31).toUInt32).toInt32))])) (fun _ k => XS.iloadN X0.here hx rfl (hb hby at_18) rfl (XS.bipush X0.here hx rfl (hb hby at_19) (XS.iushr X0.here hx rfl (hb hby at_21) rfl (XS.sipush X0.here hx rfl (hb hby at_22) k)))) ?_
  refine own_st (S' := s₁.setTop (mkF m 27 #[.val (.int p0), .val (.int p1), .val (.int p2), .val (.int p3), .val (.int p4), .val (.int p5), .val (.int i101), .val (.int i102), .unset, .unset, .unset, .unset, .unset, .unset, .unset, .unset, .unset] [(.int (3 : Int32)), (.int (((p3.toUInt32 >>> ((8 : Int32) &&& 31).toUInt32).toInt32) &&& (255 : Int32)))])) (fun _ k => XS.iand X0.here hx rfl (hb hby at_25) rfl (XS.iconst X0.here hx rfl (hb hby at_26) k)) ?_
  refine own_st (S' := s₁.setTop (mkF m 28 #[.val (.int p0), .val (.int p1), .val (.int p2), .val (.int p3), .val (.int p4), .val (.int p5), .val (.int i101), .val (.int i102), .unset, .unset, .unset, .unset, .unset, .unset, .unset, .unset, .unset] [(.int ((((p3.toUInt32 >>> ((8 : Int32) &&& 31).toUInt32).toInt32) &&& (255 : Int32)) % (3 : Int32)))])) (fun _ k => iremM X0 hx rfl (hb hby at_27) rfl (by decide) k) ?_
  refine own_st (S' := s₁.setTop (mkF m 30 #[.val (.int p0), .val (.int p1), .val (.int p2), .val (.int p3), .val (.int p4), .val (.int p5), .val (.int i101), .val (.int i102), .val (.int ((((p3.toUInt32 >>> ((8 : Int32) &&& 31).toUInt32).toInt32) &&& (255 : Int32)) % (3 : Int32))), .unset, .unset, .unset, .unset, .unset, .unset, .unset, .unset] [])) (fun _ k => XS.istore X0.here hx rfl (hb hby at_28) rfl (l' := #[.val (.int p0), .val (.int p1), .val (.int p2), .val (.int p3), .val (.int p4), .val (.int p5), .val (.int i101), .val (.int i102), .val (.int ((((p3.toUInt32 >>> ((8 : Int32) &&& 31).toUInt32).toInt32) &&& (255 : Int32)) % (3 : Int32))), .unset, .unset, .unset, .unset, .unset, .unset, .unset, .unset]) rfl k) ?_
  generalize gi103 : ((((p3.toUInt32 >>> ((8 : Int32) &&& 31).toUInt32).toInt32) &&& (255 : Int32)) % (3 : Int32)) = i103
  refine own_st (S' := s₁.setTop (mkF m 36 #[.val (.int p0), .val (.int p1), .val (.int p2), .val (.int p3), .val (.int p4), .val (.int p5), .val (.int i101), .val (.int i102), .val (.int i103), .unset, .unset, .unset, .unset, .unset, .unset, .unset, .unset] [(.int ((p1 &&& (255 : Int32)).toUInt32.toUInt16.toUInt32.toInt32))])) (fun _ k => XS.iloadN X0.here hx rfl (hb hby at_30) rfl (XS.sipush X0.here hx rfl (hb hby at_31) (XS.iand X0.here hx rfl (hb hby at_34) rfl (XS.i2c X0.here hx rfl (hb hby at_35) rfl k)))) ?_
  refine own_st (S' := s₁.setTop (mkF m 38 #[.val (.int p0), .val (.int p1), .val (.int p2), .val (.int p3), .val (.int p4), .val (.int p5), .val (.int i101), .val (.int i102), .val (.int i103), .val (.int ((p1 &&& (255 : Int32)).toUInt32.toUInt16.toUInt32.toInt32)), .unset, .unset, .unset, .unset, .unset, .unset, .unset] [])) (fun _ k => XS.istore X0.here hx rfl (hb hby at_36) rfl (l' := #[.val (.int p0), .val (.int p1), .val (.int p2), .val (.int p3), .val (.int p4), .val (.int p5), .val (.int i101), .val (.int i102), .val (.int i103), .val (.int ((p1 &&& (255 : Int32)).toUInt32.toUInt16.toUInt32.toInt32)), .unset, .unset, .unset, .unset, .unset, .unset, .unset]) rfl k) ?_
  generalize gi104 : ((p1 &&& (255 : Int32)).toUInt32.toUInt16.toUInt32.toInt32) = i104
  refine own_st (S' := s₁.setTop (mkF m 45 #[.val (.int p0), .val (.int p1), .val (.int p2), .val (.int p3), .val (.int p4), .val (.int p5), .val (.int i101), .val (.int i102), .val (.int i103), .val (.int i104), .unset, .unset, .unset, .unset, .unset, .unset, .unset] [(.int (255 : Int32)), (.int ((p1.toUInt32 >>> ((8 : Int32) &&& 31).toUInt32).toInt32))])) (fun _ k => XS.iloadN X0.here hx rfl (hb hby at_38) rfl (XS.bipush X0.here hx rfl (hb hby at_39) (XS.iushr X0.here hx rfl (hb hby at_41) rfl (XS.sipush X0.here hx rfl (hb hby at_42) k)))) ?_
  refine own_st (S' := s₁.setTop (mkF m 49 #[.val (.int p0), .val (.int p1), .val (.int p2), .val (.int p3), .val (.int p4), .val (.int p5), .val (.int i101), .val (.int i102), .val (.int i103), .val (.int i104), .val (.int ((((p1.toUInt32 >>> ((8 : Int32) &&& 31).toUInt32).toInt32) &&& (255 : Int32)).toUInt32.toUInt16.toUInt32.toInt32)), .unset, .unset, .unset, .unset, .unset, .unset] [])) (fun _ k => XS.iand X0.here hx rfl (hb hby at_45) rfl (XS.i2c X0.here hx rfl (hb hby at_46) rfl (XS.istore X0.here hx rfl (hb hby at_47) rfl (l' := #[.val (.int p0), .val (.int p1), .val (.int p2), .val (.int p3), .val (.int p4), .val (.int p5), .val (.int i101), .val (.int i102), .val (.int i103), .val (.int i104), .val (.int ((((p1.toUInt32 >>> ((8 : Int32) &&& 31).toUInt32).toInt32) &&& (255 : Int32)).toUInt32.toUInt16.toUInt32.toInt32)), .unset, .unset, .unset, .unset, .unset, .unset]) rfl k))) ?_
  generalize gi105 : ((((p1.toUInt32 >>> ((8 : Int32) &&& 31).toUInt32).toInt32) &&& (255 : Int32)).toUInt32.toUInt16.toUInt32.toInt32) = i105
  refine own_st (S' := s₁.setTop (mkF m 54 #[.val (.int p0), .val (.int p1), .val (.int p2), .val (.int p3), .val (.int p4), .val (.int p5), .val (.int i101), .val (.int i102), .val (.int i103), .val (.int i104), .val (.int i105), .unset, .unset, .unset, .unset, .unset, .unset] [(.int (1 : Int32)), (.int ((p2.toUInt32 >>> ((16 : Int32) &&& 31).toUInt32).toInt32))])) (fun _ k => XS.iloadN X0.here hx rfl (hb hby at_49) rfl (XS.bipush X0.here hx rfl (hb hby at_50) (XS.iushr X0.here hx rfl (hb hby at_52) rfl (XS.iconst X0.here hx rfl (hb hby at_53) k)))) ?_
  refine own_st (S' := s₁.setTop (mkF m 55 #[.val (.int p0), .val (.int p1), .val (.int p2), .val (.int p3), .val (.int p4), .val (.int p5), .val (.int i101), .val (.int i102), .val (.int i103), .val (.int i104), .val (.int i105), .unset, .unset, .unset, .unset, .unset, .unset] [(.int (((p2.toUInt32 >>> ((16 : Int32) &&& 31).toUInt32).toInt32) &&& (1 : Int32)))])) (fun _ k => XS.iand X0.here hx rfl (hb hby at_54) rfl k) ?_
  by_cases hc106 : (((p2.toUInt32 >>> ((16 : Int32) &&& 31).toUInt32).toInt32) &&& (1 : Int32)) = (0 : Int32)
  · refine own_st (S' := s₁.setTop (mkF m 68 #[.val (.int p0), .val (.int p1), .val (.int p2), .val (.int p3), .val (.int p4), .val (.int p5), .val (.int i101), .val (.int i102), .val (.int i103), .val (.int i104), .val (.int i105), .unset, .unset, .unset, .unset, .unset, .unset] [(.int (p2 &&& (255 : Int32)))])) (fun _ k => XS.ifYes X0.here hx rfl (pc0 := 55) (pc' := 63) rfl (hb hby at_55) rfl ((if0 _ _).trans (teq hc106).1) (by decide) (by decide) (XS.iloadN X0.here hx rfl (hb hby at_63) rfl (XS.sipush X0.here hx rfl (hb hby at_64) (XS.iand X0.here hx rfl (hb hby at_67) rfl k)))) ?_
    refine own_st (S' := s₁.setTop (mkF m 71 #[.val (.int p0), .val (.int p1), .val (.int p2), .val (.int p3), .val (.int p4), .val (.int p5), .val (.int i101), .val (.int i102), .val (.int i103), .val (.int i104), .val (.int i105), .val (.int ((p2 &&& (255 : Int32)).toUInt32.toUInt16.toUInt32.toInt32)), .unset, .unset, .unset, .unset, .unset] [])) (fun _ k => XS.i2c X0.here hx rfl (hb hby at_68) rfl (XS.istore X0.here hx rfl (hb hby at_69) rfl (l' := #[.val (.int p0), .val (.int p1), .val (.int p2), .val (.int p3), .val (.int p4), .val (.int p5), .val (.int i101), .val (.int i102), .val (.int i103), .val (.int i104), .val (.int i105), .val (.int ((p2 &&& (255 : Int32)).toUInt32.toUInt16.toUInt32.toInt32)), .unset, .unset, .unset, .unset, .unset]) rfl k)) ?_
    generalize gi107 : ((p2 &&& (255 : Int32)).toUInt32.toUInt16.toUInt32.toInt32) = i107
    refine own_st (S' := s₁.setTop (mkF m 76 #[.val (.int p0), .val (.int p1), .val (.int p2), .val (.int p3), .val (.int p4), .val (.int p5), .val (.int i101), .val (.int i102), .val (.int i103), .val (.int i104), .val (.int i105), .val (.int i107), .unset, .unset, .unset, .unset, .unset] [(.int (1 : Int32)), (.int ((p2.toUInt32 >>> ((17 : Int32) &&& 31).toUInt32).toInt32))])) (fun _ k => XS.iloadN X0.here hx rfl (hb hby at_71) rfl (XS.bipush X0.here hx rfl (hb hby at_72) (XS.iushr X0.here hx rfl (hb hby at_74) rfl (XS.iconst X0.here hx rfl (hb hby at_75) k)))) ?_
    refine own_st (S' := s₁.setTop (mkF m 77 #[.val (.int p0), .val (.int p1), .val (.int p2), .val (.int p3), .val (.int p4), .val (.int p5), .val (.int i101), .val (.int i102), .val (.int i103), .val (.int i104), .val (.int i105), .val (.int i107), .unset, .unset, .unset, .unset, .unset] [(.int (((p2.toUInt32 >>> ((17 : Int32) &&& 31).toUInt32).toInt32) &&& (1 : Int32)))])) (fun _ k => XS.iand X0.here hx rfl (hb hby at_76) rfl k) ?_
    by_cases hc108 : (((p2.toUInt32 >>> ((17 : Int32) &&& 31).toUInt32).toInt32) &&& (1 : Int32)) = (0 : Int32)
    · refine own_st (S' := s₁.setTop (mkF m 89 #[.val (.int p0), .val (.int p1), .val (.int p2), .val (.int p3), .val (.int p4), .val (.int p5), .val (.int i101), .val (.int i102), .val (.int i103), .val (.int i104), .val (.int i105), .val (.int i107), .unset, .unset, .unset, .unset, .unset] [(.int ((p2.toUInt32 >>> ((8 : Int32) &&& 31).toUInt32).toInt32))])) (fun _ k => XS.ifYes X0.here hx rfl (pc0 := 77) (pc' := 85) rfl (hb hby at_77) rfl ((if0 _ _).trans (teq hc108).1) (by decide) (by decide) (XS.iloadN X0.here hx rfl (hb hby at_85) rfl (XS.bipush X0.here hx rfl (hb hby at_86) (XS.iushr X0.here hx rfl (hb hby at_88) rfl k)))) ?_
      refine own_st (S' := s₁.setTop (mkF m 96 #[.val (.int p0), .val (.int p1), .val (.int p2), .val (.int p3), .val (.int p4), .val (.int p5), .val (.int i101), .val (.int i102), .val (.int i103), .val (.int i104), .val (.int i105), .val (.int i107), .val (.int ((((p2.toUInt32 >>> ((8 : Int32) &&& 31).toUInt32).toInt32) &&& (255 : Int32)).toUInt32.toUInt16.toUInt32.toInt32)), .unset, .unset, .unset, .unset] [])) (fun _ k => XS.sipush X0.here hx rfl (hb hby at_89) (XS.iand X0.here hx rfl (hb hby at_92) rfl (XS.i2c X0.here hx rfl (hb hby at_93) rfl (XS.istore X0.here hx rfl (hb hby at_94) rfl (l' := #[.val (.int p0), .val (.int p1), .val (.int p2), .val (.int p3), .val (.int p4), .val (.int p5), .val (.int i101), .val (.int i102), .val (.int i103), .val (.int i104), .val (.int i105), .val (.int i107), .val (.int ((((p2.toUInt32 >>> ((8 : Int32) &&& 31).toUInt32).toInt32) &&& (255 : Int32)).toUInt32.toUInt16.toUInt32.toInt32)), .unset, .unset, .unset, .unset]) rfl k)))) ?_
      generalize gi109 : ((((p2.toUInt32 >>> ((8 : Int32) &&& 31).toUInt32).toInt32) &&& (255 : Int32)).toUInt32.toUInt16.toUInt32.toInt32) = i109
      refine own_st (S' := s₁.setTop (mkF m 102 #[.val (.int p0), .val (.int p1), .val (.int p2), .val (.int p3), .val (.int p4), .val (.int p5), .val (.int i101), .val (.int i102), .val (.int i103), .val (.int i104), .val (.int i105), .val (.int i107), .val (.int i109), .unset, .unset, .unset, .unset] [(.int i105), (.int i104), (.int i102)])) (fun _ k => XS.iload X0.here hx rfl (hb hby at_96) rfl (XS.iload X0.here hx rfl (hb hby at_98) rfl (XS.iload X0.here hx rfl (hb hby at_100) rfl k))) ?_
      obtain ⟨_, _, ⟨T110, L110, k110, n110⟩, -, X110, sn110, sg110, ⟨Lc110, hQ110, l110, y110, z110⟩, st110⟩ := callSS X0 hx (y := (⟨"com/example/librow/librow/TokenIsSymbolPinLaw", "str", "(ICC)Ljava/lang/String;"⟩ : MethodName)) hown (mvT hZ (hw _ own_w1)) (mvT hZ (hw _ own_w2)) (mvT hZ (hw _ own_w3)) (mvT hZ (hw _ own_w4)) (by decide) (own_backS (W := 0) (own_rm_str l Z a0 hw G1 S1 P1 hCH hCW k0 k1 k2 k3 k4 k5 k6 B [] i102 i104 i105 h0 n0 (Nat.le_trans Z0 (Nat.le_refl _)) XO (own_chr gi104) (own_chr gi105)) hZ (hw _ own_w4) (hw _ own_w3) (by decide) (by decide)) (g := (mkF m 102 #[.val (.int p0), .val (.int p1), .val (.int p2), .val (.int p3), .val (.int p4), .val (.int p5), .val (.int i101), .val (.int i102), .val (.int i103), .val (.int i104), .val (.int i105), .val (.int i107), .val (.int i109), .unset, .unset, .unset, .unset] [(.int i105), (.int i104), (.int i102)])) rfl (by rw [hml]; rfl) (argsL := [(.int i102), (.int i104), (.int i105)]) (rest := []) (lenOf own_pd4 rfl) rfl (by show 2 * 0 + _ ≤ _; exact Nat.le_of_eq rfl) (hb hby at_102) (fun _ hv => ⟨rfl, e0, (by decide : 0 + 4 ≤ _), (by decide : 0 + 8 ≤ _), hLS.warm hv⟩)
      dsimp only [Pt.U, Pt.locs, Pt.cells, Pt.slots] at X110 l110 y110 z110 st110 hQ110 sn110 sg110
      subst l110 y110 z110
      obtain ⟨XX110, ss110, hz110, ho110⟩ := rebS sn0 (n1 := s₁.heap.size) (by rw [e0]; exact Nat.le_trans (Nat.zero_le _) (Nat.le_refl _)) X110 sn110 sg110 hZ hown
      obtain ⟨r110, rfl, M110, E110, g110, Y110, LS110⟩ := hQ110
      have N110 := Fr.app N0 M110
      obtain ⟨h110, e110⟩ : ∃ z, T110.heap = z := ⟨_, rfl⟩
      rw [e110] at E110 LS110 ss110 Y110
      refine own_tr (S' := T110.setTop (mkF m 105 #[.val (.int p0), .val (.int p1), .val (.int p2), .val (.int p3), .val (.int p4), .val (.int p5), .val (.int i101), .val (.int i102), .val (.int i103), .val (.int i104), .val (.int i105), .val (.int i107), .val (.int i109), .unset, .unset, .unset, .unset] [(.ref r110)])) st110 ?_
      refine own_st (S' := T110.setTop (mkF m 113 #[.val (.int p0), .val (.int p1), .val (.int p2), .val (.int p3), .val (.int p4), .val (.int p5), .val (.int i101), .val (.int i102), .val (.int i103), .val (.int i104), .val (.int i105), .val (.int i107), .val (.int i109), .val (.ref r110), .unset, .unset, .unset] [(.int i109), (.int i107), (.int i103)])) (fun _ k => XS.astore XX110.here hx rfl (hb hby at_105) rfl rfl (l' := #[.val (.int p0), .val (.int p1), .val (.int p2), .val (.int p3), .val (.int p4), .val (.int p5), .val (.int i101), .val (.int i102), .val (.int i103), .val (.int i104), .val (.int i105), .val (.int i107), .val (.int i109), .val (.ref r110), .unset, .unset, .unset]) rfl (XS.iload XX110.here hx rfl (hb hby at_107) rfl (XS.iload XX110.here hx rfl (hb hby at_109) rfl (XS.iload XX110.here hx rfl (hb hby at_111) rfl k)))) ?_
      have XO111 : Old Z n0 h110 := (XO.ext E110)
      obtain ⟨_, _, ⟨T112, L112, k112, n112⟩, -, X112, sn112, sg112, ⟨Lc112, hQ112, l112, y112, z112⟩, st112⟩ := callSS XX110 hx (y := (⟨"com/example/librow/librow/TokenIsSymbolPinLaw", "str", "(ICC)Ljava/lang/String;"⟩ : MethodName)) ho110 (mvT hz110 (hw _ own_w1)) (mvT hz110 (hw _ own_w2)) (mvT hz110 (hw _ own_w3)) (mvT hz110 (hw _ own_w4)) (by decide) (own_backS (W := 0) (own_rm_str l Z a0 hw G1 S1 P1 hCH hCW k0 k1 k2 k3 k4 k5 k6 B [] i103 i107 i109 h110 n0 (Nat.le_trans Z0 E110.1) XO111 (own_chr gi107) (own_chr gi109)) hz110 (hw _ own_w4) (hw _ own_w3) (by decide) (by decide)) (g := (mkF m 113 #[.val (.int p0), .val (.int p1), .val (.int p2), .val (.int p3), .val (.int p4), .val (.int p5), .val (.int i101), .val (.int i102), .val (.int i103), .val (.int i104), .val (.int i105), .val (.int i107), .val (.int i109), .val (.ref r110), .unset, .unset, .unset] [(.int i109), (.int i107), (.int i103)])) rfl (by rw [hml]; rfl) (argsL := [(.int i103), (.int i107), (.int i109)]) (rest := []) (lenOf own_pd4 rfl) rfl (by show 2 * 0 + _ ≤ _; exact Nat.le_of_eq rfl) (hb hby at_113) (fun _ hv => ⟨rfl, e110, (by decide : 4 + 4 ≤ _), (by decide : 8 + 8 ≤ _), LS110.warm hv⟩)
      dsimp only [Pt.U, Pt.locs, Pt.cells, Pt.slots] at X112 l112 y112 z112 st112 hQ112 sn112 sg112
      subst l112 y112 z112
      obtain ⟨XX112, ss112, hz112, ho112⟩ := rebS ss110 (n1 := T110.heap.size) (by rw [e110]; exact Nat.le_trans (Nat.le_refl _) (Nat.le_refl _)) X112 sn112 sg112 hz110 ho110
      obtain ⟨r112, rfl, M112, E112, g112, Y112, LS112⟩ := hQ112
      have N112 := Fr.app N110 M112
      obtain ⟨h112, e112⟩ : ∃ z, T112.heap = z := ⟨_, rfl⟩
      rw [e112] at E112 LS112 ss112 Y112
      refine own_tr (S' := T112.setTop (mkF m 116 #[.val (.int p0), .val (.int p1), .val (.int p2), .val (.int p3), .val (.int p4), .val (.int p5), .val (.int i101), .val (.int i102), .val (.int i103), .val (.int i104), .val (.int i105), .val (.int i107), .val (.int i109), .val (.ref r110), .unset, .unset, .unset] [(.ref r112)])) st112 ?_
      refine own_st (S' := T112.setTop (mkF m 118 #[.val (.int p0), .val (.int p1), .val (.int p2), .val (.int p3), .val (.int p4), .val (.int p5), .val (.int i101), .val (.int i102), .val (.int i103), .val (.int i104), .val (.int i105), .val (.int i107), .val (.int i109), .val (.ref r110), .val (.ref r112), .unset, .unset] [])) (fun _ k => XS.astore XX112.here hx rfl (hb hby at_116) rfl rfl (l' := #[.val (.int p0), .val (.int p1), .val (.int p2), .val (.int p3), .val (.int p4), .val (.int p5), .val (.int i101), .val (.int i102), .val (.int i103), .val (.int i104), .val (.int i105), .val (.int i107), .val (.int i109), .val (.ref r110), .val (.ref r112), .unset, .unset]) rfl k) ?_
      obtain ⟨T113, h113, X113, e113, E113, A113, D113, -, st113⟩ := newO XX112 hx hz112 ho112 (hw _ own_w38) (hw _ own_w39) (hw _ own_w40) e112 (g := (mkF m 118 #[.val (.int p0), .val (.int p1), .val (.int p2), .val (.int p3), .val (.int p4), .val (.int p5), .val (.int i101), .val (.int i102), .val (.int i103), .val (.int i104), .val (.int i105), .val (.int i107), .val (.int i109), .val (.ref r110), .val (.ref r112), .unset, .unset] [])) rfl (hb hby at_118) (by decide) (by decide)
      obtain ⟨b113, g113⟩ : ∃ z, z = h112.size := ⟨_, rfl⟩
      rw [← g113] at A113 D113 st113
      refine own_st (S' := T113.setTop (mkF m 121 #[.val (.int p0), .val (.int p1), .val (.int p2), .val (.int p3), .val (.int p4), .val (.int p5), .val (.int i101), .val (.int i102), .val (.int i103), .val (.int i104), .val (.int i105), .val (.int i107), .val (.int i109), .val (.ref r110), .val (.ref r112), .unset, .unset] [(.ref b113)])) st113 ?_
      refine own_st (S' := T113.setTop (mkF m 124 #[.val (.int p0), .val (.int p1), .val (.int p2), .val (.int p3), .val (.int p4), .val (.int p5), .val (.int i101), .val (.int i102), .val (.int i103), .val (.int i104), .val (.int i105), .val (.int i107), .val (.int i109), .val (.ref r110), .val (.ref r112), .unset, .unset] [(.int i101), (.ref b113), (.ref b113)])) (fun _ k => XS.dup X113.here hx rfl (hb hby at_121) rfl rfl (XS.iload X113.here hx rfl (hb hby at_122) rfl k)) ?_
      have XE114 : Ext h110 h113 := (own_xt E112 E113)
      have XO115 : Old Z n0 h113 := (XO111.ext XE114)
      obtain ⟨_, _, ⟨T116, L116, k116, n116⟩, -, X116, ⟨Lc116, hQ116, l116, y116, z116⟩, st116⟩ := Jvm.LawKit.callS X113 hx (y := (⟨"com/example/librow/librow/TokenIsSymbolPinLaw", "kind", "(I)Lcom/example/librow/librow/QueryLexer$Kind;"⟩ : MethodName)) ho112 (mvT hz112 (hw _ own_w41)) (mvT hz112 (hw _ own_w42)) (mvT hz112 (hw _ own_w3)) (mvT hz112 (hw _ own_w43)) (by decide) (backOf (W := 2) (own_rm_kind l Z a0 hw G1 S1 P1 hCH hCW k0 k1 k2 k3 k4 k5 k6 B [] i101 h113 n0 (Nat.le_trans Z0 (Nat.le_trans (Nat.le_trans E110.1 E112.1) E113.1)) XO115 ) hz112 (hw _ own_w43) (hw _ own_w3) (by decide) (by decide)) (g := (mkF m 124 #[.val (.int p0), .val (.int p1), .val (.int p2), .val (.int p3), .val (.int p4), .val (.int p5), .val (.int i101), .val (.int i102), .val (.int i103), .val (.int i104), .val (.int i105), .val (.int i107), .val (.int i109), .val (.ref r110), .val (.ref r112), .unset, .unset] [(.int i101), (.ref b113), (.ref b113)])) rfl (by rw [hml]; rfl) (argsL := [(.int i101)]) (rest := [(.ref b113), (.ref b113)]) (lenOf own_pd5 rfl) rfl (by show 2 * 0 + _ ≤ _; exact Nat.le_of_eq rfl) (hb hby at_124) (fun _ _ => ⟨rfl, e113, (by decide : 9 + 0 ≤ _), (by decide : 20 + 0 ≤ _)⟩)
      dsimp only [Pt.U, Pt.locs, Pt.cells, Pt.slots] at X116 l116 y116 z116 st116 hQ116
      subst l116 y116 z116
      obtain ⟨r116, rfl, M116, e116, o116⟩ := hQ116
      have N116 := Fr.app N112 M116
      refine own_st (S' := T116.setTop (mkF m 127 #[.val (.int p0), .val (.int p1), .val (.int p2), .val (.int p3), .val (.int p4), .val (.int p5), .val (.int i101), .val (.int i102), .val (.int i103), .val (.int i104), .val (.int i105), .val (.int i107), .val (.int i109), .val (.ref r110), .val (.ref r112), .unset, .unset] [(.ref r116), (.ref b113), (.ref b113)])) st116 ?_
      refine own_st (S' := T116.setTop (mkF m 133 #[.val (.int p0), .val (.int p1), .val (.int p2), .val (.int p3), .val (.int p4), .val (.int p5), .val (.int i101), .val (.int i102), .val (.int i103), .val (.int i104), .val (.int i105), .val (.int i107), .val (.int i109), .val (.ref r110), .val (.ref r112), .unset, .unset] [(.int p5), (.int p4), (.ref r110), (.ref r116), (.ref b113), (.ref b113)])) (fun _ k => XS.aload X116.here hx rfl (hb hby at_127) rfl rfl (XS.iload X116.here hx rfl (hb hby at_129) rfl (XS.iload X116.here hx rfl (hb hby at_131) rfl k))) ?_
      obtain ⟨_, _, ⟨T117, L117, k117, n117⟩, -, X117, ⟨Lc117, hQ117, l117, y117, z117⟩, st117⟩ := X116.specialBack hx (y := (⟨"com/example/librow/librow/QueryLexer$Token", "<init>", "(Lcom/example/librow/librow/QueryLexer$Kind;Ljava/lang/String;II)V"⟩ : MethodName)) rfl ho112 (mvT hz112 (hw _ own_w47)) (mvT hz112 (hw _ own_w48)) (mvT hz112 (hw _ own_w49)) (by decide) (backOf (W := 1) (own_rm_tok l Z a0 hw G1 S1 P1 hCH hCW k0 k1 k2 k3 k4 k5 k6 B [] b113 r116 r110 p4 p5 h113 n0 (Nat.le_trans Z0 (Nat.le_trans (Nat.le_trans E110.1 E112.1) E113.1)) XO115 (Nat.le_trans Z0 (Nat.le_trans (Nat.le_trans E110.1 E112.1) (Nat.le_of_eq g113.symm))) A113 (D113 (Or.inr (hw _ own_w57)) (ty := (.object "com/example/librow/librow/QueryLexer$Kind")) (by decide)) (D113 (Or.inr (hw _ own_w59)) (ty := (.object "java/lang/String")) (by decide)) (D113 (Or.inr (hw _ own_w61)) (ty := .int) (by decide)) (D113 (Or.inr (hw _ own_w63)) (ty := .int) (by decide))) hz112 (hw _ own_w49) (hw _ own_w40) (by decide) (by decide)) (g := (mkF m 133 #[.val (.int p0), .val (.int p1), .val (.int p2), .val (.int p3), .val (.int p4), .val (.int p5), .val (.int i101), .val (.int i102), .val (.int i103), .val (.int i104), .val (.int i105), .val (.int i107), .val (.int i109), .val (.ref r110), .val (.ref r112), .unset, .unset] [(.int p5), (.int p4), (.ref r110), (.ref r116), (.ref b113), (.ref b113)])) rfl (by rw [hml]; rfl) (Steps.refl _) (a := b113) (argsL := [(.ref r116), (.ref r110), (.int p4), (.int p5)]) (rest := [(.ref b113)]) (lenOf own_pd6 rfl) rfl (by show 2 * 0 + _ ≤ _; exact Nat.le_of_eq rfl) (hb hby at_133) (fun _ _ => ⟨rfl, e116, (by decide : 9 + 0 ≤ _), (by decide : 20 + 0 ≤ _)⟩)
      dsimp only [Pt.U, Pt.locs, Pt.cells, Pt.slots] at X117 l117 y117 z117 st117 hQ117
      subst l117 y117 z117
      obtain ⟨rfl, M117, K117, Fk117, Ft117⟩ := hQ117
      have N117 := Fr.app N116 M117
      obtain ⟨h117, e117⟩ : ∃ z, T117.heap = z := ⟨_, rfl⟩
      rw [e117] at K117 Fk117 Ft117
      refine own_tr (S' := T117.setTop (mkF m 136 #[.val (.int p0), .val (.int p1), .val (.int p2), .val (.int p3), .val (.int p4), .val (.int p5), .val (.int i101), .val (.int i102), .val (.int i103), .val (.int i104), .val (.int i105), .val (.int i107), .val (.int i109), .val (.ref r110), .val (.ref r112), .unset, .unset] [(.ref b113)])) st117 ?_
      refine own_st (S' := T117.setTop (mkF m 141 #[.val (.int p0), .val (.int p1), .val (.int p2), .val (.int p3), .val (.int p4), .val (.int p5), .val (.int i101), .val (.int i102), .val (.int i103), .val (.int i104), .val (.int i105), .val (.int i107), .val (.int i109), .val (.ref r110), .val (.ref r112), .val (.ref b113), .unset] [(.int (5 : Int32)), (.int i101)])) (fun _ k => XS.astore X117.here hx rfl (hb hby at_136) rfl rfl (l' := #[.val (.int p0), .val (.int p1), .val (.int p2), .val (.int p3), .val (.int p4), .val (.int p5), .val (.int i101), .val (.int i102), .val (.int i103), .val (.int i104), .val (.int i105), .val (.int i107), .val (.int i109), .val (.ref r110), .val (.ref r112), .val (.ref b113), .unset]) rfl (XS.iload X117.here hx rfl (hb hby at_138) rfl (XS.iconst X117.here hx rfl (hb hby at_140) k))) ?_
      by_cases hc118 : i101 = (5 : Int32)
      · refine own_st (S' := T117.setTop (mkF m 148 #[.val (.int p0), .val (.int p1), .val (.int p2), .val (.int p3), .val (.int p4), .val (.int p5), .val (.int i101), .val (.int i102), .val (.int i103), .val (.int i104), .val (.int i105), .val (.int i107), .val (.int i109), .val (.ref r110), .val (.ref r112), .val (.ref b113), .unset] [(.int i103), (.int i102)])) (fun _ k => XS.icmpNo X117.here hx rfl (hb hby at_141) rfl (teq hc118).2 (XS.iload X117.here hx rfl (hb hby at_144) rfl (XS.iload X117.here hx rfl (hb hby at_146) rfl k))) ?_
        by_cases hc119 : i102 = i103
        · refine own_st (S' := T117.setTop (mkF m 154 #[.val (.int p0), .val (.int p1), .val (.int p2), .val (.int p3), .val (.int p4), .val (.int p5), .val (.int i101), .val (.int i102), .val (.int i103), .val (.int i104), .val (.int i105), .val (.int i107), .val (.int i109), .val (.ref r110), .val (.ref r112), .val (.ref b113), .unset] [(.int (1 : Int32)), (.int i102)])) (fun _ k => XS.icmpNo X117.here hx rfl (hb hby at_148) rfl (teq hc119).2 (XS.iload X117.here hx rfl (hb hby at_151) rfl (XS.iconst X117.here hx rfl (hb hby at_153) k))) ?_
          by_cases hc120 : i102 < (1 : Int32)
          · refine own_st (S' := T117.setTop (mkF m 167 #[.val (.int p0), .val (.int p1), .val (.int p2), .val (.int p3), .val (.int p4), .val (.int p5), .val (.int i101), .val (.int i102), .val (.int i103), .val (.int i104), .val (.int i105), .val (.int i107), .val (.int i109), .val (.ref r110), .val (.ref r112), .val (.ref b113), .unset] [(.int (2 : Int32)), (.int i102)])) (fun _ k => XS.icmpYes X117.here hx rfl (pc0 := 154) (pc' := 164) rfl (hb hby at_154) rfl (tlt hc120).1 (by decide) (by decide) (XS.iload X117.here hx rfl (hb hby at_164) rfl (XS.iconst X117.here hx rfl (hb hby at_166) k))) ?_
            by_cases hc121 : i102 < (2 : Int32)
            · refine own_st (S' := T117.setTop (mkF m 184 #[.val (.int p0), .val (.int p1), .val (.int p2), .val (.int p3), .val (.int p4), .val (.int p5), .val (.int i101), .val (.int i102), .val (.int i103), .val (.int i104), .val (.int i105), .val (.int i107), .val (.int i109), .val (.ref r110), .val (.ref r112), .val (.ref b113), .val (.int (1 : Int32))] [])) (fun _ k => XS.icmpYes X117.here hx rfl (pc0 := 167) (pc' := 177) rfl (hb hby at_167) rfl (tlt hc121).1 (by decide) (by decide) (XS.iconst X117.here hx rfl (hb hby at_177) (XS.goto X117.here hx rfl (pc0 := 178) (pc' := 182) rfl (hb hby at_178) (by decide) (by decide) (XS.istore X117.here hx rfl (hb hby at_182) rfl (l' := #[.val (.int p0), .val (.int p1), .val (.int p2), .val (.int p3), .val (.int p4), .val (.int p5), .val (.int i101), .val (.int i102), .val (.int i103), .val (.int i104), .val (.int i105), .val (.int i107), .val (.int i109), .val (.ref r110), .val (.ref r112), .val (.ref b113), .val (.int (1 : Int32))]) rfl k)))) ?_
              refine own_st (S' := T117.setTop (mkF m 188 #[.val (.int p0), .val (.int p1), .val (.int p2), .val (.int p3), .val (.int p4), .val (.int p5), .val (.int i101), .val (.int i102), .val (.int i103), .val (.int i104), .val (.int i105), .val (.int i107), .val (.int i109), .val (.ref r110), .val (.ref r112), .val (.ref b113), .val (.int (1 : Int32))] [(.ref r112), (.ref b113)])) (fun _ k => XS.aload X117.here hx rfl (hb hby at_184) rfl rfl (XS.aload X117.here hx rfl (hb hby at_186) rfl rfl k)) ?_
              have hke : r116 = k5 := o116.elim (fun q => q.2) fun q => absurd hc118 q.1
              have Fk5 : Fld Z h117 b113 "com/example/librow/librow/QueryLexer$Token" "kind" "Lcom/example/librow/librow/QueryLexer$Kind;" (.ref k5) := hke ▸ Fk117
              have XE122 : Ext h110 h117 := (own_xk XE114 K117 (allS (Nat.le_trans E112.1 (Nat.le_of_eq g113.symm)) all0))
              have G123 : own_Str Z h117 r110 (own_txt i102 i104 i105) := (Y110.ext XE122)
              have XE124 : Ext h112 h117 := (own_xk E113 K117 (allS (Nat.le_of_eq g113.symm) all0))
              have G125 : own_Str Z h117 r112 (own_txt i103 i107 i109) := (Y112.ext XE124)
              have XO126 : Old Z n0 h117 := (XO115.keep K117 (allS (Nat.le_trans Z0 (Nat.le_trans (Nat.le_trans E110.1 E112.1) (Nat.le_of_eq g113.symm))) all0))
              have A128 : Exa Z h117 b113 "com/example/librow/librow/QueryLexer$Token" := (A113.keep K117)
              obtain ⟨cq127, kq127, q127a, q127b, q127c⟩ := isOf hz112 e117 A128
              obtain ⟨_, _, ⟨T127, L127, k127, n127⟩, -, X127, ⟨Lc127, hQ127, l127, y127, z127⟩, st127⟩ := X117.virtualBack hx (y := (⟨"com/example/librow/librow/QueryLexer$Token", "isSymbol", "(Ljava/lang/String;)Z"⟩ : MethodName)) (z := (⟨"com/example/librow/librow/QueryLexer$Token", "isSymbol", "(Ljava/lang/String;)Z"⟩ : MethodName)) ho112 (mvT hz112 (hw _ own_w64)) (mvT hz112 (hw _ own_w65)) (notFace_of_selects (args := #[]) (mvT hz112 (hw _ own_w67))) (mvT hz112 (hw _ own_w67)) (mvT hz112 (hw _ own_w66)) (by decide) (backOf (W := 0) (own_rm_isy l Z a0 hw G1 S1 P1 hCH hCW k0 k1 k2 k3 k4 k5 k6 B [] b113 r112 r110 (own_txt i102 i104 i105) (own_txt i103 i107 i109) h117 n0 (Nat.le_trans Z0 (Nat.le_trans (Nat.le_trans (Nat.le_trans E110.1 E112.1) E113.1) K117.1)) XO126 Fk5 Ft117 G123 G125) hz112 (hw _ own_w68) (hw _ own_w40) (by decide) (by decide)) q127a q127c (g := (mkF m 188 #[.val (.int p0), .val (.int p1), .val (.int p2), .val (.int p3), .val (.int p4), .val (.int p5), .val (.int i101), .val (.int i102), .val (.int i103), .val (.int i104), .val (.int i105), .val (.int i107), .val (.int i109), .val (.ref r110), .val (.ref r112), .val (.ref b113), .val (.int (1 : Int32))] [(.ref r112), (.ref b113)])) rfl (by rw [hml]; rfl) (Steps.refl _) (argsL := [(.ref r112)]) (rest := []) (lenOf own_pd7 rfl) rfl (by show 2 * 0 + _ ≤ _; exact Nat.le_of_eq rfl) (hb hby at_188) (fun _ _ => ⟨rfl, e117, (by decide : 9 + 0 ≤ _), (by decide : 20 + 0 ≤ _)⟩)
              dsimp only [Pt.U, Pt.locs, Pt.cells, Pt.slots] at X127 l127 y127 z127 st127 hQ127
              subst l127 y127 z127
              obtain ⟨o127, M127, e127⟩ := hQ127
              have N127 := Fr.app N117 M127
              obtain ⟨rfl, -⟩ := own_pickY o127 ((own_txt_eq (own_rem3 gi102) (own_rem3 gi103)).mpr ⟨hc119, Or.inl hc120, Or.inl hc121⟩)
              refine own_tr (S' := T127.setTop (mkF m 191 #[.val (.int p0), .val (.int p1), .val (.int p2), .val (.int p3), .val (.int p4), .val (.int p5), .val (.int i101), .val (.int i102), .val (.int i103), .val (.int i104), .val (.int i105), .val (.int i107), .val (.int i109), .val (.ref r110), .val (.ref r112), .val (.ref b113), .val (.int (1 : Int32))] [(.int (1 : Int32))])) st127 ?_
              refine own_st (S' := T127.setTop (mkF m 201 #[.val (.int p0), .val (.int p1), .val (.int p2), .val (.int p3), .val (.int p4), .val (.int p5), .val (.int i101), .val (.int i102), .val (.int i103), .val (.int i104), .val (.int i105), .val (.int i107), .val (.int i109), .val (.ref r110), .val (.ref r112), .val (.ref b113), .val (.int (1 : Int32))] [(.int (1 : Int32))])) (fun _ k => XS.iload X127.here hx rfl (hb hby at_191) rfl (XS.icmpNo X127.here hx rfl (hb hby at_193) rfl (by decide) (XS.iconst X127.here hx rfl (hb hby at_196) (XS.goto X127.here hx rfl (pc0 := 197) (pc' := 201) rfl (hb hby at_197) (by decide) (by decide) k)))) ?_
              refine own_retW X127 hx ss112 (by rw [e127]; exact Nat.le_trans (Nat.le_refl _) (Nat.le_trans E113.1 K117.1)) Bd.returns hlk rfl (Or.inl ⟨rfl, (by simp), _, rfl⟩) (hb hby at_201) (by decide) (by decide) ?_
              rw [e127]
              exact ⟨rfl, N127⟩
            · refine own_st (S' := T117.setTop (mkF m 174 #[.val (.int p0), .val (.int p1), .val (.int p2), .val (.int p3), .val (.int p4), .val (.int p5), .val (.int i101), .val (.int i102), .val (.int i103), .val (.int i104), .val (.int i105), .val (.int i107), .val (.int i109), .val (.ref r110), .val (.ref r112), .val (.ref b113), .unset] [(.int i109), (.int i105)])) (fun _ k => XS.icmpNo X117.here hx rfl (hb hby at_167) rfl (flt hc121).1 (XS.iload X117.here hx rfl (hb hby at_170) rfl (XS.iload X117.here hx rfl (hb hby at_172) rfl k))) ?_
              by_cases hc129 : i105 = i109
              · refine own_st (S' := T117.setTop (mkF m 184 #[.val (.int p0), .val (.int p1), .val (.int p2), .val (.int p3), .val (.int p4), .val (.int p5), .val (.int i101), .val (.int i102), .val (.int i103), .val (.int i104), .val (.int i105), .val (.int i107), .val (.int i109), .val (.ref r110), .val (.ref r112), .val (.ref b113), .val (.int (1 : Int32))] [])) (fun _ k => XS.icmpNo X117.here hx rfl (hb hby at_174) rfl (teq hc129).2 (XS.iconst X117.here hx rfl (hb hby at_177) (XS.goto X117.here hx rfl (pc0 := 178) (pc' := 182) rfl (hb hby at_178) (by decide) (by decide) (XS.istore X117.here hx rfl (hb hby at_182) rfl (l' := #[.val (.int p0), .val (.int p1), .val (.int p2), .val (.int p3), .val (.int p4), .val (.int p5), .val (.int i101), .val (.int i102), .val (.int i103), .val (.int i104), .val (.int i105), .val (.int i107), .val (.int i109), .val (.ref r110), .val (.ref r112), .val (.ref b113), .val (.int (1 : Int32))]) rfl k)))) ?_
                refine own_st (S' := T117.setTop (mkF m 188 #[.val (.int p0), .val (.int p1), .val (.int p2), .val (.int p3), .val (.int p4), .val (.int p5), .val (.int i101), .val (.int i102), .val (.int i103), .val (.int i104), .val (.int i105), .val (.int i107), .val (.int i109), .val (.ref r110), .val (.ref r112), .val (.ref b113), .val (.int (1 : Int32))] [(.ref r112), (.ref b113)])) (fun _ k => XS.aload X117.here hx rfl (hb hby at_184) rfl rfl (XS.aload X117.here hx rfl (hb hby at_186) rfl rfl k)) ?_
                have hke : r116 = k5 := o116.elim (fun q => q.2) fun q => absurd hc118 q.1
                have Fk5 : Fld Z h117 b113 "com/example/librow/librow/QueryLexer$Token" "kind" "Lcom/example/librow/librow/QueryLexer$Kind;" (.ref k5) := hke ▸ Fk117
                have XE130 : Ext h110 h117 := (own_xk XE114 K117 (allS (Nat.le_trans E112.1 (Nat.le_of_eq g113.symm)) all0))
                have G131 : own_Str Z h117 r110 (own_txt i102 i104 i105) := (Y110.ext XE130)
                have XE132 : Ext h112 h117 := (own_xk E113 K117 (allS (Nat.le_of_eq g113.symm) all0))
                have G133 : own_Str Z h117 r112 (own_txt i103 i107 i109) := (Y112.ext XE132)
                have XO134 : Old Z n0 h117 := (XO115.keep K117 (allS (Nat.le_trans Z0 (Nat.le_trans (Nat.le_trans E110.1 E112.1) (Nat.le_of_eq g113.symm))) all0))
                have A136 : Exa Z h117 b113 "com/example/librow/librow/QueryLexer$Token" := (A113.keep K117)
                obtain ⟨cq135, kq135, q135a, q135b, q135c⟩ := isOf hz112 e117 A136
                obtain ⟨_, _, ⟨T135, L135, k135, n135⟩, -, X135, ⟨Lc135, hQ135, l135, y135, z135⟩, st135⟩ := X117.virtualBack hx (y := (⟨"com/example/librow/librow/QueryLexer$Token", "isSymbol", "(Ljava/lang/String;)Z"⟩ : MethodName)) (z := (⟨"com/example/librow/librow/QueryLexer$Token", "isSymbol", "(Ljava/lang/String;)Z"⟩ : MethodName)) ho112 (mvT hz112 (hw _ own_w64)) (mvT hz112 (hw _ own_w65)) (notFace_of_selects (args := #[]) (mvT hz112 (hw _ own_w67))) (mvT hz112 (hw _ own_w67)) (mvT hz112 (hw _ own_w66)) (by decide) (backOf (W := 0) (own_rm_isy l Z a0 hw G1 S1 P1 hCH hCW k0 k1 k2 k3 k4 k5 k6 B [] b113 r112 r110 (own_txt i102 i104 i105) (own_txt i103 i107 i109) h117 n0 (Nat.le_trans Z0 (Nat.le_trans (Nat.le_trans (Nat.le_trans E110.1 E112.1) E113.1) K117.1)) XO134 Fk5 Ft117 G131 G133) hz112 (hw _ own_w68) (hw _ own_w40) (by decide) (by decide)) q135a q135c (g := (mkF m 188 #[.val (.int p0), .val (.int p1), .val (.int p2), .val (.int p3), .val (.int p4), .val (.int p5), .val (.int i101), .val (.int i102), .val (.int i103), .val (.int i104), .val (.int i105), .val (.int i107), .val (.int i109), .val (.ref r110), .val (.ref r112), .val (.ref b113), .val (.int (1 : Int32))] [(.ref r112), (.ref b113)])) rfl (by rw [hml]; rfl) (Steps.refl _) (argsL := [(.ref r112)]) (rest := []) (lenOf own_pd7 rfl) rfl (by show 2 * 0 + _ ≤ _; exact Nat.le_of_eq rfl) (hb hby at_188) (fun _ _ => ⟨rfl, e117, (by decide : 9 + 0 ≤ _), (by decide : 20 + 0 ≤ _)⟩)
                dsimp only [Pt.U, Pt.locs, Pt.cells, Pt.slots] at X135 l135 y135 z135 st135 hQ135
                subst l135 y135 z135
                obtain ⟨o135, M135, e135⟩ := hQ135
                have N135 := Fr.app N117 M135
                obtain ⟨rfl, -⟩ := own_pickY o135 ((own_txt_eq (own_rem3 gi102) (own_rem3 gi103)).mpr ⟨hc119, Or.inl hc120, Or.inr hc129⟩)
                refine own_tr (S' := T135.setTop (mkF m 191 #[.val (.int p0), .val (.int p1), .val (.int p2), .val (.int p3), .val (.int p4), .val (.int p5), .val (.int i101), .val (.int i102), .val (.int i103), .val (.int i104), .val (.int i105), .val (.int i107), .val (.int i109), .val (.ref r110), .val (.ref r112), .val (.ref b113), .val (.int (1 : Int32))] [(.int (1 : Int32))])) st135 ?_
                refine own_st (S' := T135.setTop (mkF m 201 #[.val (.int p0), .val (.int p1), .val (.int p2), .val (.int p3), .val (.int p4), .val (.int p5), .val (.int i101), .val (.int i102), .val (.int i103), .val (.int i104), .val (.int i105), .val (.int i107), .val (.int i109), .val (.ref r110), .val (.ref r112), .val (.ref b113), .val (.int (1 : Int32))] [(.int (1 : Int32))])) (fun _ k => XS.iload X135.here hx rfl (hb hby at_191) rfl (XS.icmpNo X135.here hx rfl (hb hby at_193) rfl (by decide) (XS.iconst X135.here hx rfl (hb hby at_196) (XS.goto X135.here hx rfl (pc0 := 197) (pc' := 201) rfl (hb hby at_197) (by decide) (by decide) k)))) ?_
                refine own_retW X135 hx ss112 (by rw [e135]; exact Nat.le_trans (Nat.le_refl _) (Nat.le_trans E113.1 K117.1)) Bd.returns hlk rfl (Or.inl ⟨rfl, (by simp), _, rfl⟩) (hb hby at_201) (by decide) (by decide) ?_
                rw [e135]
                exact ⟨rfl, N135⟩
              · refine own_st (S' := T117.setTop (mkF m 186 #[.val (.int p0), .val (.int p1), .val (.int p2), .val (.int p3), .val (.int p4), .val (.int p5), .val (.int i101), .val (.int i102), .val (.int i103), .val (.int i104), .val (.int i105), .val (.int i107), .val (.int i109), .val (.ref r110), .val (.ref r112), .val (.ref b113), .val (.int (0 : Int32))] [(.ref b113)])) (fun _ k => XS.icmpYes X117.here hx rfl (pc0 := 174) (pc' := 181) rfl (hb hby at_174) rfl (feq hc129).2 (by decide) (by decide) (XS.iconst X117.here hx rfl (hb hby at_181) (XS.istore X117.here hx rfl (hb hby at_182) rfl (l' := #[.val (.int p0), .val (.int p1), .val (.int p2), .val (.int p3), .val (.int p4), .val (.int p5), .val (.int i101), .val (.int i102), .val (.int i103), .val (.int i104), .val (.int i105), .val (.int i107), .val (.int i109), .val (.ref r110), .val (.ref r112), .val (.ref b113), .val (.int (0 : Int32))]) rfl (XS.aload X117.here hx rfl (hb hby at_184) rfl rfl k)))) ?_
                refine own_st (S' := T117.setTop (mkF m 188 #[.val (.int p0), .val (.int p1), .val (.int p2), .val (.int p3), .val (.int p4), .val (.int p5), .val (.int i101), .val (.int i102), .val (.int i103), .val (.int i104), .val (.int i105), .val (.int i107), .val (.int i109), .val (.ref r110), .val (.ref r112), .val (.ref b113), .val (.int (0 : Int32))] [(.ref r112), (.ref b113)])) (fun _ k => XS.aload X117.here hx rfl (hb hby at_186) rfl rfl k) ?_
                have hke : r116 = k5 := o116.elim (fun q => q.2) fun q => absurd hc118 q.1
                have Fk5 : Fld Z h117 b113 "com/example/librow/librow/QueryLexer$Token" "kind" "Lcom/example/librow/librow/QueryLexer$Kind;" (.ref k5) := hke ▸ Fk117
                have XE137 : Ext h110 h117 := (own_xk XE114 K117 (allS (Nat.le_trans E112.1 (Nat.le_of_eq g113.symm)) all0))
                have G138 : own_Str Z h117 r110 (own_txt i102 i104 i105) := (Y110.ext XE137)
                have XE139 : Ext h112 h117 := (own_xk E113 K117 (allS (Nat.le_of_eq g113.symm) all0))
                have G140 : own_Str Z h117 r112 (own_txt i103 i107 i109) := (Y112.ext XE139)
                have XO141 : Old Z n0 h117 := (XO115.keep K117 (allS (Nat.le_trans Z0 (Nat.le_trans (Nat.le_trans E110.1 E112.1) (Nat.le_of_eq g113.symm))) all0))
                have A143 : Exa Z h117 b113 "com/example/librow/librow/QueryLexer$Token" := (A113.keep K117)
                obtain ⟨cq142, kq142, q142a, q142b, q142c⟩ := isOf hz112 e117 A143
                obtain ⟨_, _, ⟨T142, L142, k142, n142⟩, -, X142, ⟨Lc142, hQ142, l142, y142, z142⟩, st142⟩ := X117.virtualBack hx (y := (⟨"com/example/librow/librow/QueryLexer$Token", "isSymbol", "(Ljava/lang/String;)Z"⟩ : MethodName)) (z := (⟨"com/example/librow/librow/QueryLexer$Token", "isSymbol", "(Ljava/lang/String;)Z"⟩ : MethodName)) ho112 (mvT hz112 (hw _ own_w64)) (mvT hz112 (hw _ own_w65)) (notFace_of_selects (args := #[]) (mvT hz112 (hw _ own_w67))) (mvT hz112 (hw _ own_w67)) (mvT hz112 (hw _ own_w66)) (by decide) (backOf (W := 0) (own_rm_isy l Z a0 hw G1 S1 P1 hCH hCW k0 k1 k2 k3 k4 k5 k6 B [] b113 r112 r110 (own_txt i102 i104 i105) (own_txt i103 i107 i109) h117 n0 (Nat.le_trans Z0 (Nat.le_trans (Nat.le_trans (Nat.le_trans E110.1 E112.1) E113.1) K117.1)) XO141 Fk5 Ft117 G138 G140) hz112 (hw _ own_w68) (hw _ own_w40) (by decide) (by decide)) q142a q142c (g := (mkF m 188 #[.val (.int p0), .val (.int p1), .val (.int p2), .val (.int p3), .val (.int p4), .val (.int p5), .val (.int i101), .val (.int i102), .val (.int i103), .val (.int i104), .val (.int i105), .val (.int i107), .val (.int i109), .val (.ref r110), .val (.ref r112), .val (.ref b113), .val (.int (0 : Int32))] [(.ref r112), (.ref b113)])) rfl (by rw [hml]; rfl) (Steps.refl _) (argsL := [(.ref r112)]) (rest := []) (lenOf own_pd7 rfl) rfl (by show 2 * 0 + _ ≤ _; exact Nat.le_of_eq rfl) (hb hby at_188) (fun _ _ => ⟨rfl, e117, (by decide : 9 + 0 ≤ _), (by decide : 20 + 0 ≤ _)⟩)
                dsimp only [Pt.U, Pt.locs, Pt.cells, Pt.slots] at X142 l142 y142 z142 st142 hQ142
                subst l142 y142 z142
                obtain ⟨o142, M142, e142⟩ := hQ142
                have N142 := Fr.app N117 M142
                obtain ⟨rfl, -⟩ := own_pickN o142 (fun q => ((own_txt_eq (own_rem3 gi102) (own_rem3 gi103)).mp q).2.2.elim hc121 hc129)
                refine own_tr (S' := T142.setTop (mkF m 191 #[.val (.int p0), .val (.int p1), .val (.int p2), .val (.int p3), .val (.int p4), .val (.int p5), .val (.int i101), .val (.int i102), .val (.int i103), .val (.int i104), .val (.int i105), .val (.int i107), .val (.int i109), .val (.ref r110), .val (.ref r112), .val (.ref b113), .val (.int (0 : Int32))] [(.int (0 : Int32))])) st142 ?_
                refine own_st (S' := T142.setTop (mkF m 201 #[.val (.int p0), .val (.int p1), .val (.int p2), .val (.int p3), .val (.int p4), .val (.int p5), .val (.int i101), .val (.int i102), .val (.int i103), .val (.int i104), .val (.int i105), .val (.int i107), .val (.int i109), .val (.ref r110), .val (.ref r112), .val (.ref b113), .val (.int (0 : Int32))] [(.int (1 : Int32))])) (fun _ k => XS.iload X142.here hx rfl (hb hby at_191) rfl (XS.icmpNo X142.here hx rfl (hb hby at_193) rfl (by decide) (XS.iconst X142.here hx rfl (hb hby at_196) (XS.goto X142.here hx rfl (pc0 := 197) (pc' := 201) rfl (hb hby at_197) (by decide) (by decide) k)))) ?_
                refine own_retW X142 hx ss112 (by rw [e142]; exact Nat.le_trans (Nat.le_refl _) (Nat.le_trans E113.1 K117.1)) Bd.returns hlk rfl (Or.inl ⟨rfl, (by simp), _, rfl⟩) (hb hby at_201) (by decide) (by decide) ?_
                rw [e142]
                exact ⟨rfl, N142⟩
          · refine own_st (S' := T117.setTop (mkF m 161 #[.val (.int p0), .val (.int p1), .val (.int p2), .val (.int p3), .val (.int p4), .val (.int p5), .val (.int i101), .val (.int i102), .val (.int i103), .val (.int i104), .val (.int i105), .val (.int i107), .val (.int i109), .val (.ref r110), .val (.ref r112), .val (.ref b113), .unset] [(.int i107), (.int i104)])) (fun _ k => XS.icmpNo X117.here hx rfl (hb hby at_154) rfl (flt hc120).1 (XS.iload X117.here hx rfl (hb hby at_157) rfl (XS.iload X117.here hx rfl (hb hby at_159) rfl k))) ?_
            by_cases hc144 : i104 = i107
            · refine own_st (S' := T117.setTop (mkF m 167 #[.val (.int p0), .val (.int p1), .val (.int p2), .val (.int p3), .val (.int p4), .val (.int p5), .val (.int i101), .val (.int i102), .val (.int i103), .val (.int i104), .val (.int i105), .val (.int i107), .val (.int i109), .val (.ref r110), .val (.ref r112), .val (.ref b113), .unset] [(.int (2 : Int32)), (.int i102)])) (fun _ k => XS.icmpNo X117.here hx rfl (hb hby at_161) rfl (teq hc144).2 (XS.iload X117.here hx rfl (hb hby at_164) rfl (XS.iconst X117.here hx rfl (hb hby at_166) k))) ?_
              by_cases hc145 : i102 < (2 : Int32)
              · refine own_st (S' := T117.setTop (mkF m 184 #[.val (.int p0), .val (.int p1), .val (.int p2), .val (.int p3), .val (.int p4), .val (.int p5), .val (.int i101), .val (.int i102), .val (.int i103), .val (.int i104), .val (.int i105), .val (.int i107), .val (.int i109), .val (.ref r110), .val (.ref r112), .val (.ref b113), .val (.int (1 : Int32))] [])) (fun _ k => XS.icmpYes X117.here hx rfl (pc0 := 167) (pc' := 177) rfl (hb hby at_167) rfl (tlt hc145).1 (by decide) (by decide) (XS.iconst X117.here hx rfl (hb hby at_177) (XS.goto X117.here hx rfl (pc0 := 178) (pc' := 182) rfl (hb hby at_178) (by decide) (by decide) (XS.istore X117.here hx rfl (hb hby at_182) rfl (l' := #[.val (.int p0), .val (.int p1), .val (.int p2), .val (.int p3), .val (.int p4), .val (.int p5), .val (.int i101), .val (.int i102), .val (.int i103), .val (.int i104), .val (.int i105), .val (.int i107), .val (.int i109), .val (.ref r110), .val (.ref r112), .val (.ref b113), .val (.int (1 : Int32))]) rfl k)))) ?_
                refine own_st (S' := T117.setTop (mkF m 188 #[.val (.int p0), .val (.int p1), .val (.int p2), .val (.int p3), .val (.int p4), .val (.int p5), .val (.int i101), .val (.int i102), .val (.int i103), .val (.int i104), .val (.int i105), .val (.int i107), .val (.int i109), .val (.ref r110), .val (.ref r112), .val (.ref b113), .val (.int (1 : Int32))] [(.ref r112), (.ref b113)])) (fun _ k => XS.aload X117.here hx rfl (hb hby at_184) rfl rfl (XS.aload X117.here hx rfl (hb hby at_186) rfl rfl k)) ?_
                have hke : r116 = k5 := o116.elim (fun q => q.2) fun q => absurd hc118 q.1
                have Fk5 : Fld Z h117 b113 "com/example/librow/librow/QueryLexer$Token" "kind" "Lcom/example/librow/librow/QueryLexer$Kind;" (.ref k5) := hke ▸ Fk117
                have XE146 : Ext h110 h117 := (own_xk XE114 K117 (allS (Nat.le_trans E112.1 (Nat.le_of_eq g113.symm)) all0))
                have G147 : own_Str Z h117 r110 (own_txt i102 i104 i105) := (Y110.ext XE146)
                have XE148 : Ext h112 h117 := (own_xk E113 K117 (allS (Nat.le_of_eq g113.symm) all0))
                have G149 : own_Str Z h117 r112 (own_txt i103 i107 i109) := (Y112.ext XE148)
                have XO150 : Old Z n0 h117 := (XO115.keep K117 (allS (Nat.le_trans Z0 (Nat.le_trans (Nat.le_trans E110.1 E112.1) (Nat.le_of_eq g113.symm))) all0))
                have A152 : Exa Z h117 b113 "com/example/librow/librow/QueryLexer$Token" := (A113.keep K117)
                obtain ⟨cq151, kq151, q151a, q151b, q151c⟩ := isOf hz112 e117 A152
                obtain ⟨_, _, ⟨T151, L151, k151, n151⟩, -, X151, ⟨Lc151, hQ151, l151, y151, z151⟩, st151⟩ := X117.virtualBack hx (y := (⟨"com/example/librow/librow/QueryLexer$Token", "isSymbol", "(Ljava/lang/String;)Z"⟩ : MethodName)) (z := (⟨"com/example/librow/librow/QueryLexer$Token", "isSymbol", "(Ljava/lang/String;)Z"⟩ : MethodName)) ho112 (mvT hz112 (hw _ own_w64)) (mvT hz112 (hw _ own_w65)) (notFace_of_selects (args := #[]) (mvT hz112 (hw _ own_w67))) (mvT hz112 (hw _ own_w67)) (mvT hz112 (hw _ own_w66)) (by decide) (backOf (W := 0) (own_rm_isy l Z a0 hw G1 S1 P1 hCH hCW k0 k1 k2 k3 k4 k5 k6 B [] b113 r112 r110 (own_txt i102 i104 i105) (own_txt i103 i107 i109) h117 n0 (Nat.le_trans Z0 (Nat.le_trans (Nat.le_trans (Nat.le_trans E110.1 E112.1) E113.1) K117.1)) XO150 Fk5 Ft117 G147 G149) hz112 (hw _ own_w68) (hw _ own_w40) (by decide) (by decide)) q151a q151c (g := (mkF m 188 #[.val (.int p0), .val (.int p1), .val (.int p2), .val (.int p3), .val (.int p4), .val (.int p5), .val (.int i101), .val (.int i102), .val (.int i103), .val (.int i104), .val (.int i105), .val (.int i107), .val (.int i109), .val (.ref r110), .val (.ref r112), .val (.ref b113), .val (.int (1 : Int32))] [(.ref r112), (.ref b113)])) rfl (by rw [hml]; rfl) (Steps.refl _) (argsL := [(.ref r112)]) (rest := []) (lenOf own_pd7 rfl) rfl (by show 2 * 0 + _ ≤ _; exact Nat.le_of_eq rfl) (hb hby at_188) (fun _ _ => ⟨rfl, e117, (by decide : 9 + 0 ≤ _), (by decide : 20 + 0 ≤ _)⟩)
                dsimp only [Pt.U, Pt.locs, Pt.cells, Pt.slots] at X151 l151 y151 z151 st151 hQ151
                subst l151 y151 z151
                obtain ⟨o151, M151, e151⟩ := hQ151
                have N151 := Fr.app N117 M151
                obtain ⟨rfl, -⟩ := own_pickY o151 ((own_txt_eq (own_rem3 gi102) (own_rem3 gi103)).mpr ⟨hc119, Or.inr hc144, Or.inl hc145⟩)
                refine own_tr (S' := T151.setTop (mkF m 191 #[.val (.int p0), .val (.int p1), .val (.int p2), .val (.int p3), .val (.int p4), .val (.int p5), .val (.int i101), .val (.int i102), .val (.int i103), .val (.int i104), .val (.int i105), .val (.int i107), .val (.int i109), .val (.ref r110), .val (.ref r112), .val (.ref b113), .val (.int (1 : Int32))] [(.int (1 : Int32))])) st151 ?_
                refine own_st (S' := T151.setTop (mkF m 201 #[.val (.int p0), .val (.int p1), .val (.int p2), .val (.int p3), .val (.int p4), .val (.int p5), .val (.int i101), .val (.int i102), .val (.int i103), .val (.int i104), .val (.int i105), .val (.int i107), .val (.int i109), .val (.ref r110), .val (.ref r112), .val (.ref b113), .val (.int (1 : Int32))] [(.int (1 : Int32))])) (fun _ k => XS.iload X151.here hx rfl (hb hby at_191) rfl (XS.icmpNo X151.here hx rfl (hb hby at_193) rfl (by decide) (XS.iconst X151.here hx rfl (hb hby at_196) (XS.goto X151.here hx rfl (pc0 := 197) (pc' := 201) rfl (hb hby at_197) (by decide) (by decide) k)))) ?_
                refine own_retW X151 hx ss112 (by rw [e151]; exact Nat.le_trans (Nat.le_refl _) (Nat.le_trans E113.1 K117.1)) Bd.returns hlk rfl (Or.inl ⟨rfl, (by simp), _, rfl⟩) (hb hby at_201) (by decide) (by decide) ?_
                rw [e151]
                exact ⟨rfl, N151⟩
              · refine own_st (S' := T117.setTop (mkF m 174 #[.val (.int p0), .val (.int p1), .val (.int p2), .val (.int p3), .val (.int p4), .val (.int p5), .val (.int i101), .val (.int i102), .val (.int i103), .val (.int i104), .val (.int i105), .val (.int i107), .val (.int i109), .val (.ref r110), .val (.ref r112), .val (.ref b113), .unset] [(.int i109), (.int i105)])) (fun _ k => XS.icmpNo X117.here hx rfl (hb hby at_167) rfl (flt hc145).1 (XS.iload X117.here hx rfl (hb hby at_170) rfl (XS.iload X117.here hx rfl (hb hby at_172) rfl k))) ?_
                by_cases hc153 : i105 = i109
                · refine own_st (S' := T117.setTop (mkF m 184 #[.val (.int p0), .val (.int p1), .val (.int p2), .val (.int p3), .val (.int p4), .val (.int p5), .val (.int i101), .val (.int i102), .val (.int i103), .val (.int i104), .val (.int i105), .val (.int i107), .val (.int i109), .val (.ref r110), .val (.ref r112), .val (.ref b113), .val (.int (1 : Int32))] [])) (fun _ k => XS.icmpNo X117.here hx rfl (hb hby at_174) rfl (teq hc153).2 (XS.iconst X117.here hx rfl (hb hby at_177) (XS.goto X117.here hx rfl (pc0 := 178) (pc' := 182) rfl (hb hby at_178) (by decide) (by decide) (XS.istore X117.here hx rfl (hb hby at_182) rfl (l' := #[.val (.int p0), .val (.int p1), .val (.int p2), .val (.int p3), .val (.int p4), .val (.int p5), .val (.int i101), .val (.int i102), .val (.int i103), .val (.int i104), .val (.int i105), .val (.int i107), .val (.int i109), .val (.ref r110), .val (.ref r112), .val (.ref b113), .val (.int (1 : Int32))]) rfl k)))) ?_
                  refine own_st (S' := T117.setTop (mkF m 188 #[.val (.int p0), .val (.int p1), .val (.int p2), .val (.int p3), .val (.int p4), .val (.int p5), .val (.int i101), .val (.int i102), .val (.int i103), .val (.int i104), .val (.int i105), .val (.int i107), .val (.int i109), .val (.ref r110), .val (.ref r112), .val (.ref b113), .val (.int (1 : Int32))] [(.ref r112), (.ref b113)])) (fun _ k => XS.aload X117.here hx rfl (hb hby at_184) rfl rfl (XS.aload X117.here hx rfl (hb hby at_186) rfl rfl k)) ?_
                  have hke : r116 = k5 := o116.elim (fun q => q.2) fun q => absurd hc118 q.1
                  have Fk5 : Fld Z h117 b113 "com/example/librow/librow/QueryLexer$Token" "kind" "Lcom/example/librow/librow/QueryLexer$Kind;" (.ref k5) := hke ▸ Fk117
                  have XE154 : Ext h110 h117 := (own_xk XE114 K117 (allS (Nat.le_trans E112.1 (Nat.le_of_eq g113.symm)) all0))
                  have G155 : own_Str Z h117 r110 (own_txt i102 i104 i105) := (Y110.ext XE154)
                  have XE156 : Ext h112 h117 := (own_xk E113 K117 (allS (Nat.le_of_eq g113.symm) all0))
                  have G157 : own_Str Z h117 r112 (own_txt i103 i107 i109) := (Y112.ext XE156)
                  have XO158 : Old Z n0 h117 := (XO115.keep K117 (allS (Nat.le_trans Z0 (Nat.le_trans (Nat.le_trans E110.1 E112.1) (Nat.le_of_eq g113.symm))) all0))
                  have A160 : Exa Z h117 b113 "com/example/librow/librow/QueryLexer$Token" := (A113.keep K117)
                  obtain ⟨cq159, kq159, q159a, q159b, q159c⟩ := isOf hz112 e117 A160
                  obtain ⟨_, _, ⟨T159, L159, k159, n159⟩, -, X159, ⟨Lc159, hQ159, l159, y159, z159⟩, st159⟩ := X117.virtualBack hx (y := (⟨"com/example/librow/librow/QueryLexer$Token", "isSymbol", "(Ljava/lang/String;)Z"⟩ : MethodName)) (z := (⟨"com/example/librow/librow/QueryLexer$Token", "isSymbol", "(Ljava/lang/String;)Z"⟩ : MethodName)) ho112 (mvT hz112 (hw _ own_w64)) (mvT hz112 (hw _ own_w65)) (notFace_of_selects (args := #[]) (mvT hz112 (hw _ own_w67))) (mvT hz112 (hw _ own_w67)) (mvT hz112 (hw _ own_w66)) (by decide) (backOf (W := 0) (own_rm_isy l Z a0 hw G1 S1 P1 hCH hCW k0 k1 k2 k3 k4 k5 k6 B [] b113 r112 r110 (own_txt i102 i104 i105) (own_txt i103 i107 i109) h117 n0 (Nat.le_trans Z0 (Nat.le_trans (Nat.le_trans (Nat.le_trans E110.1 E112.1) E113.1) K117.1)) XO158 Fk5 Ft117 G155 G157) hz112 (hw _ own_w68) (hw _ own_w40) (by decide) (by decide)) q159a q159c (g := (mkF m 188 #[.val (.int p0), .val (.int p1), .val (.int p2), .val (.int p3), .val (.int p4), .val (.int p5), .val (.int i101), .val (.int i102), .val (.int i103), .val (.int i104), .val (.int i105), .val (.int i107), .val (.int i109), .val (.ref r110), .val (.ref r112), .val (.ref b113), .val (.int (1 : Int32))] [(.ref r112), (.ref b113)])) rfl (by rw [hml]; rfl) (Steps.refl _) (argsL := [(.ref r112)]) (rest := []) (lenOf own_pd7 rfl) rfl (by show 2 * 0 + _ ≤ _; exact Nat.le_of_eq rfl) (hb hby at_188) (fun _ _ => ⟨rfl, e117, (by decide : 9 + 0 ≤ _), (by decide : 20 + 0 ≤ _)⟩)
                  dsimp only [Pt.U, Pt.locs, Pt.cells, Pt.slots] at X159 l159 y159 z159 st159 hQ159
                  subst l159 y159 z159
                  obtain ⟨o159, M159, e159⟩ := hQ159
                  have N159 := Fr.app N117 M159
                  obtain ⟨rfl, -⟩ := own_pickY o159 ((own_txt_eq (own_rem3 gi102) (own_rem3 gi103)).mpr ⟨hc119, Or.inr hc144, Or.inr hc153⟩)
                  refine own_tr (S' := T159.setTop (mkF m 191 #[.val (.int p0), .val (.int p1), .val (.int p2), .val (.int p3), .val (.int p4), .val (.int p5), .val (.int i101), .val (.int i102), .val (.int i103), .val (.int i104), .val (.int i105), .val (.int i107), .val (.int i109), .val (.ref r110), .val (.ref r112), .val (.ref b113), .val (.int (1 : Int32))] [(.int (1 : Int32))])) st159 ?_
                  refine own_st (S' := T159.setTop (mkF m 201 #[.val (.int p0), .val (.int p1), .val (.int p2), .val (.int p3), .val (.int p4), .val (.int p5), .val (.int i101), .val (.int i102), .val (.int i103), .val (.int i104), .val (.int i105), .val (.int i107), .val (.int i109), .val (.ref r110), .val (.ref r112), .val (.ref b113), .val (.int (1 : Int32))] [(.int (1 : Int32))])) (fun _ k => XS.iload X159.here hx rfl (hb hby at_191) rfl (XS.icmpNo X159.here hx rfl (hb hby at_193) rfl (by decide) (XS.iconst X159.here hx rfl (hb hby at_196) (XS.goto X159.here hx rfl (pc0 := 197) (pc' := 201) rfl (hb hby at_197) (by decide) (by decide) k)))) ?_
                  refine own_retW X159 hx ss112 (by rw [e159]; exact Nat.le_trans (Nat.le_refl _) (Nat.le_trans E113.1 K117.1)) Bd.returns hlk rfl (Or.inl ⟨rfl, (by simp), _, rfl⟩) (hb hby at_201) (by decide) (by decide) ?_
                  rw [e159]
                  exact ⟨rfl, N159⟩
                · refine own_st (S' := T117.setTop (mkF m 186 #[.val (.int p0), .val (.int p1), .val (.int p2), .val (.int p3), .val (.int p4), .val (.int p5), .val (.int i101), .val (.int i102), .val (.int i103), .val (.int i104), .val (.int i105), .val (.int i107), .val (.int i109), .val (.ref r110), .val (.ref r112), .val (.ref b113), .val (.int (0 : Int32))] [(.ref b113)])) (fun _ k => XS.icmpYes X117.here hx rfl (pc0 := 174) (pc' := 181) rfl (hb hby at_174) rfl (feq hc153).2 (by decide) (by decide) (XS.iconst X117.here hx rfl (hb hby at_181) (XS.istore X117.here hx rfl (hb hby at_182) rfl (l' := #[.val (.int p0), .val (.int p1), .val (.int p2), .val (.int p3), .val (.int p4), .val (.int p5), .val (.int i101), .val (.int i102), .val (.int i103), .val (.int i104), .val (.int i105), .val (.int i107), .val (.int i109), .val (.ref r110), .val (.ref r112), .val (.ref b113), .val (.int (0 : Int32))]) rfl (XS.aload X117.here hx rfl (hb hby at_184) rfl rfl k)))) ?_
                  refine own_st (S' := T117.setTop (mkF m 188 #[.val (.int p0), .val (.int p1), .val (.int p2), .val (.int p3), .val (.int p4), .val (.int p5), .val (.int i101), .val (.int i102), .val (.int i103), .val (.int i104), .val (.int i105), .val (.int i107), .val (.int i109), .val (.ref r110), .val (.ref r112), .val (.ref b113), .val (.int (0 : Int32))] [(.ref r112), (.ref b113)])) (fun _ k => XS.aload X117.here hx rfl (hb hby at_186) rfl rfl k) ?_
                  have hke : r116 = k5 := o116.elim (fun q => q.2) fun q => absurd hc118 q.1
                  have Fk5 : Fld Z h117 b113 "com/example/librow/librow/QueryLexer$Token" "kind" "Lcom/example/librow/librow/QueryLexer$Kind;" (.ref k5) := hke ▸ Fk117
                  have XE161 : Ext h110 h117 := (own_xk XE114 K117 (allS (Nat.le_trans E112.1 (Nat.le_of_eq g113.symm)) all0))
                  have G162 : own_Str Z h117 r110 (own_txt i102 i104 i105) := (Y110.ext XE161)
                  have XE163 : Ext h112 h117 := (own_xk E113 K117 (allS (Nat.le_of_eq g113.symm) all0))
                  have G164 : own_Str Z h117 r112 (own_txt i103 i107 i109) := (Y112.ext XE163)
                  have XO165 : Old Z n0 h117 := (XO115.keep K117 (allS (Nat.le_trans Z0 (Nat.le_trans (Nat.le_trans E110.1 E112.1) (Nat.le_of_eq g113.symm))) all0))
                  have A167 : Exa Z h117 b113 "com/example/librow/librow/QueryLexer$Token" := (A113.keep K117)
                  obtain ⟨cq166, kq166, q166a, q166b, q166c⟩ := isOf hz112 e117 A167
                  obtain ⟨_, _, ⟨T166, L166, k166, n166⟩, -, X166, ⟨Lc166, hQ166, l166, y166, z166⟩, st166⟩ := X117.virtualBack hx (y := (⟨"com/example/librow/librow/QueryLexer$Token", "isSymbol", "(Ljava/lang/String;)Z"⟩ : MethodName)) (z := (⟨"com/example/librow/librow/QueryLexer$Token", "isSymbol", "(Ljava/lang/String;)Z"⟩ : MethodName)) ho112 (mvT hz112 (hw _ own_w64)) (mvT hz112 (hw _ own_w65)) (notFace_of_selects (args := #[]) (mvT hz112 (hw _ own_w67))) (mvT hz112 (hw _ own_w67)) (mvT hz112 (hw _ own_w66)) (by decide) (backOf (W := 0) (own_rm_isy l Z a0 hw G1 S1 P1 hCH hCW k0 k1 k2 k3 k4 k5 k6 B [] b113 r112 r110 (own_txt i102 i104 i105) (own_txt i103 i107 i109) h117 n0 (Nat.le_trans Z0 (Nat.le_trans (Nat.le_trans (Nat.le_trans E110.1 E112.1) E113.1) K117.1)) XO165 Fk5 Ft117 G162 G164) hz112 (hw _ own_w68) (hw _ own_w40) (by decide) (by decide)) q166a q166c (g := (mkF m 188 #[.val (.int p0), .val (.int p1), .val (.int p2), .val (.int p3), .val (.int p4), .val (.int p5), .val (.int i101), .val (.int i102), .val (.int i103), .val (.int i104), .val (.int i105), .val (.int i107), .val (.int i109), .val (.ref r110), .val (.ref r112), .val (.ref b113), .val (.int (0 : Int32))] [(.ref r112), (.ref b113)])) rfl (by rw [hml]; rfl) (Steps.refl _) (argsL := [(.ref r112)]) (rest := []) (lenOf own_pd7 rfl) rfl (by show 2 * 0 + _ ≤ _; exact Nat.le_of_eq rfl) (hb hby at_188) (fun _ _ => ⟨rfl, e117, (by decide : 9 + 0 ≤ _), (by decide : 20 + 0 ≤ _)⟩)
                  dsimp only [Pt.U, Pt.locs, Pt.cells, Pt.slots] at X166 l166 y166 z166 st166 hQ166
                  subst l166 y166 z166
                  obtain ⟨o166, M166, e166⟩ := hQ166
                  have N166 := Fr.app N117 M166
                  obtain ⟨rfl, -⟩ := own_pickN o166 (fun q => ((own_txt_eq (own_rem3 gi102) (own_rem3 gi103)).mp q).2.2.elim hc145 hc153)
                  refine own_tr (S' := T166.setTop (mkF m 191 #[.val (.int p0), .val (.int p1), .val (.int p2), .val (.int p3), .val (.int p4), .val (.int p5), .val (.int i101), .val (.int i102), .val (.int i103), .val (.int i104), .val (.int i105), .val (.int i107), .val (.int i109), .val (.ref r110), .val (.ref r112), .val (.ref b113), .val (.int (0 : Int32))] [(.int (0 : Int32))])) st166 ?_
                  refine own_st (S' := T166.setTop (mkF m 201 #[.val (.int p0), .val (.int p1), .val (.int p2), .val (.int p3), .val (.int p4), .val (.int p5), .val (.int i101), .val (.int i102), .val (.int i103), .val (.int i104), .val (.int i105), .val (.int i107), .val (.int i109), .val (.ref r110), .val (.ref r112), .val (.ref b113), .val (.int (0 : Int32))] [(.int (1 : Int32))])) (fun _ k => XS.iload X166.here hx rfl (hb hby at_191) rfl (XS.icmpNo X166.here hx rfl (hb hby at_193) rfl (by decide) (XS.iconst X166.here hx rfl (hb hby at_196) (XS.goto X166.here hx rfl (pc0 := 197) (pc' := 201) rfl (hb hby at_197) (by decide) (by decide) k)))) ?_
                  refine own_retW X166 hx ss112 (by rw [e166]; exact Nat.le_trans (Nat.le_refl _) (Nat.le_trans E113.1 K117.1)) Bd.returns hlk rfl (Or.inl ⟨rfl, (by simp), _, rfl⟩) (hb hby at_201) (by decide) (by decide) ?_
                  rw [e166]
                  exact ⟨rfl, N166⟩
            · refine own_st (S' := T117.setTop (mkF m 186 #[.val (.int p0), .val (.int p1), .val (.int p2), .val (.int p3), .val (.int p4), .val (.int p5), .val (.int i101), .val (.int i102), .val (.int i103), .val (.int i104), .val (.int i105), .val (.int i107), .val (.int i109), .val (.ref r110), .val (.ref r112), .val (.ref b113), .val (.int (0 : Int32))] [(.ref b113)])) (fun _ k => XS.icmpYes X117.here hx rfl (pc0 := 161) (pc' := 181) rfl (hb hby at_161) rfl (feq hc144).2 (by decide) (by decide) (XS.iconst X117.here hx rfl (hb hby at_181) (XS.istore X117.here hx rfl (hb hby at_182) rfl (l' := #[.val (.int p0), .val (.int p1), .val (.int p2), .val (.int p3), .val (.int p4), .val (.int p5), .val (.int i101), .val (.int i102), .val (.int i103), .val (.int i104), .val (.int i105), .val (.int i107), .val (.int i109), .val (.ref r110), .val (.ref r112), .val (.ref b113), .val (.int (0 : Int32))]) rfl (XS.aload X117.here hx rfl (hb hby at_184) rfl rfl k)))) ?_
              refine own_st (S' := T117.setTop (mkF m 188 #[.val (.int p0), .val (.int p1), .val (.int p2), .val (.int p3), .val (.int p4), .val (.int p5), .val (.int i101), .val (.int i102), .val (.int i103), .val (.int i104), .val (.int i105), .val (.int i107), .val (.int i109), .val (.ref r110), .val (.ref r112), .val (.ref b113), .val (.int (0 : Int32))] [(.ref r112), (.ref b113)])) (fun _ k => XS.aload X117.here hx rfl (hb hby at_186) rfl rfl k) ?_
              have hke : r116 = k5 := o116.elim (fun q => q.2) fun q => absurd hc118 q.1
              have Fk5 : Fld Z h117 b113 "com/example/librow/librow/QueryLexer$Token" "kind" "Lcom/example/librow/librow/QueryLexer$Kind;" (.ref k5) := hke ▸ Fk117
              have XE168 : Ext h110 h117 := (own_xk XE114 K117 (allS (Nat.le_trans E112.1 (Nat.le_of_eq g113.symm)) all0))
              have G169 : own_Str Z h117 r110 (own_txt i102 i104 i105) := (Y110.ext XE168)
              have XE170 : Ext h112 h117 := (own_xk E113 K117 (allS (Nat.le_of_eq g113.symm) all0))
              have G171 : own_Str Z h117 r112 (own_txt i103 i107 i109) := (Y112.ext XE170)
              have XO172 : Old Z n0 h117 := (XO115.keep K117 (allS (Nat.le_trans Z0 (Nat.le_trans (Nat.le_trans E110.1 E112.1) (Nat.le_of_eq g113.symm))) all0))
              have A174 : Exa Z h117 b113 "com/example/librow/librow/QueryLexer$Token" := (A113.keep K117)
              obtain ⟨cq173, kq173, q173a, q173b, q173c⟩ := isOf hz112 e117 A174
              obtain ⟨_, _, ⟨T173, L173, k173, n173⟩, -, X173, ⟨Lc173, hQ173, l173, y173, z173⟩, st173⟩ := X117.virtualBack hx (y := (⟨"com/example/librow/librow/QueryLexer$Token", "isSymbol", "(Ljava/lang/String;)Z"⟩ : MethodName)) (z := (⟨"com/example/librow/librow/QueryLexer$Token", "isSymbol", "(Ljava/lang/String;)Z"⟩ : MethodName)) ho112 (mvT hz112 (hw _ own_w64)) (mvT hz112 (hw _ own_w65)) (notFace_of_selects (args := #[]) (mvT hz112 (hw _ own_w67))) (mvT hz112 (hw _ own_w67)) (mvT hz112 (hw _ own_w66)) (by decide) (backOf (W := 0) (own_rm_isy l Z a0 hw G1 S1 P1 hCH hCW k0 k1 k2 k3 k4 k5 k6 B [] b113 r112 r110 (own_txt i102 i104 i105) (own_txt i103 i107 i109) h117 n0 (Nat.le_trans Z0 (Nat.le_trans (Nat.le_trans (Nat.le_trans E110.1 E112.1) E113.1) K117.1)) XO172 Fk5 Ft117 G169 G171) hz112 (hw _ own_w68) (hw _ own_w40) (by decide) (by decide)) q173a q173c (g := (mkF m 188 #[.val (.int p0), .val (.int p1), .val (.int p2), .val (.int p3), .val (.int p4), .val (.int p5), .val (.int i101), .val (.int i102), .val (.int i103), .val (.int i104), .val (.int i105), .val (.int i107), .val (.int i109), .val (.ref r110), .val (.ref r112), .val (.ref b113), .val (.int (0 : Int32))] [(.ref r112), (.ref b113)])) rfl (by rw [hml]; rfl) (Steps.refl _) (argsL := [(.ref r112)]) (rest := []) (lenOf own_pd7 rfl) rfl (by show 2 * 0 + _ ≤ _; exact Nat.le_of_eq rfl) (hb hby at_188) (fun _ _ => ⟨rfl, e117, (by decide : 9 + 0 ≤ _), (by decide : 20 + 0 ≤ _)⟩)
              dsimp only [Pt.U, Pt.locs, Pt.cells, Pt.slots] at X173 l173 y173 z173 st173 hQ173
              subst l173 y173 z173
              obtain ⟨o173, M173, e173⟩ := hQ173
              have N173 := Fr.app N117 M173
              obtain ⟨rfl, -⟩ := own_pickN o173 (fun q => ((own_txt_eq (own_rem3 gi102) (own_rem3 gi103)).mp q).2.1.elim hc120 hc144)
              refine own_tr (S' := T173.setTop (mkF m 191 #[.val (.int p0), .val (.int p1), .val (.int p2), .val (.int p3), .val (.int p4), .val (.int p5), .val (.int i101), .val (.int i102), .val (.int i103), .val (.int i104), .val (.int i105), .val (.int i107), .val (.int i109), .val (.ref r110), .val (.ref r112), .val (.ref b113), .val (.int (0 : Int32))] [(.int (0 : Int32))])) st173 ?_
              refine own_st (S' := T173.setTop (mkF m 201 #[.val (.int p0), .val (.int p1), .val (.int p2), .val (.int p3), .val (.int p4), .val (.int p5), .val (.int i101), .val (.int i102), .val (.int i103), .val (.int i104), .val (.int i105), .val (.int i107), .val (.int i109), .val (.ref r110), .val (.ref r112), .val (.ref b113), .val (.int (0 : Int32))] [(.int (1 : Int32))])) (fun _ k => XS.iload X173.here hx rfl (hb hby at_191) rfl (XS.icmpNo X173.here hx rfl (hb hby at_193) rfl (by decide) (XS.iconst X173.here hx rfl (hb hby at_196) (XS.goto X173.here hx rfl (pc0 := 197) (pc' := 201) rfl (hb hby at_197) (by decide) (by decide) k)))) ?_
              refine own_retW X173 hx ss112 (by rw [e173]; exact Nat.le_trans (Nat.le_refl _) (Nat.le_trans E113.1 K117.1)) Bd.returns hlk rfl (Or.inl ⟨rfl, (by simp), _, rfl⟩) (hb hby at_201) (by decide) (by decide) ?_
              rw [e173]
              exact ⟨rfl, N173⟩
        · refine own_st (S' := T117.setTop (mkF m 186 #[.val (.int p0), .val (.int p1), .val (.int p2), .val (.int p3), .val (.int p4), .val (.int p5), .val (.int i101), .val (.int i102), .val (.int i103), .val (.int i104), .val (.int i105), .val (.int i107), .val (.int i109), .val (.ref r110), .val (.ref r112), .val (.ref b113), .val (.int (0 : Int32))] [(.ref b113)])) (fun _ k => XS.icmpYes X117.here hx rfl (pc0 := 148) (pc' := 181) rfl (hb hby at_148) rfl (feq hc119).2 (by decide) (by decide) (XS.iconst X117.here hx rfl (hb hby at_181) (XS.istore X117.here hx rfl (hb hby at_182) rfl (l' := #[.val (.int p0), .val (.int p1), .val (.int p2), .val (.int p3), .val (.int p4), .val (.int p5), .val (.int i101), .val (.int i102), .val (.int i103), .val (.int i104), .val (.int i105), .val (.int i107), .val (.int i109), .val (.ref r110), .val (.ref r112), .val (.ref b113), .val (.int (0 : Int32))]) rfl (XS.aload X117.here hx rfl (hb hby at_184) rfl rfl k)))) ?_
          refine own_st (S' := T117.setTop (mkF m 188 #[.val (.int p0), .val (.int p1), .val (.int p2), .val (.int p3), .val (.int p4), .val (.int p5), .val (.int i101), .val (.int i102), .val (.int i103), .val (.int i104), .val (.int i105), .val (.int i107), .val (.int i109), .val (.ref r110), .val (.ref r112), .val (.ref b113), .val (.int (0 : Int32))] [(.ref r112), (.ref b113)])) (fun _ k => XS.aload X117.here hx rfl (hb hby at_186) rfl rfl k) ?_
          have hke : r116 = k5 := o116.elim (fun q => q.2) fun q => absurd hc118 q.1
          have Fk5 : Fld Z h117 b113 "com/example/librow/librow/QueryLexer$Token" "kind" "Lcom/example/librow/librow/QueryLexer$Kind;" (.ref k5) := hke ▸ Fk117
          have XE175 : Ext h110 h117 := (own_xk XE114 K117 (allS (Nat.le_trans E112.1 (Nat.le_of_eq g113.symm)) all0))
          have G176 : own_Str Z h117 r110 (own_txt i102 i104 i105) := (Y110.ext XE175)
          have XE177 : Ext h112 h117 := (own_xk E113 K117 (allS (Nat.le_of_eq g113.symm) all0))
          have G178 : own_Str Z h117 r112 (own_txt i103 i107 i109) := (Y112.ext XE177)
          have XO179 : Old Z n0 h117 := (XO115.keep K117 (allS (Nat.le_trans Z0 (Nat.le_trans (Nat.le_trans E110.1 E112.1) (Nat.le_of_eq g113.symm))) all0))
          have A181 : Exa Z h117 b113 "com/example/librow/librow/QueryLexer$Token" := (A113.keep K117)
          obtain ⟨cq180, kq180, q180a, q180b, q180c⟩ := isOf hz112 e117 A181
          obtain ⟨_, _, ⟨T180, L180, k180, n180⟩, -, X180, ⟨Lc180, hQ180, l180, y180, z180⟩, st180⟩ := X117.virtualBack hx (y := (⟨"com/example/librow/librow/QueryLexer$Token", "isSymbol", "(Ljava/lang/String;)Z"⟩ : MethodName)) (z := (⟨"com/example/librow/librow/QueryLexer$Token", "isSymbol", "(Ljava/lang/String;)Z"⟩ : MethodName)) ho112 (mvT hz112 (hw _ own_w64)) (mvT hz112 (hw _ own_w65)) (notFace_of_selects (args := #[]) (mvT hz112 (hw _ own_w67))) (mvT hz112 (hw _ own_w67)) (mvT hz112 (hw _ own_w66)) (by decide) (backOf (W := 0) (own_rm_isy l Z a0 hw G1 S1 P1 hCH hCW k0 k1 k2 k3 k4 k5 k6 B [] b113 r112 r110 (own_txt i102 i104 i105) (own_txt i103 i107 i109) h117 n0 (Nat.le_trans Z0 (Nat.le_trans (Nat.le_trans (Nat.le_trans E110.1 E112.1) E113.1) K117.1)) XO179 Fk5 Ft117 G176 G178) hz112 (hw _ own_w68) (hw _ own_w40) (by decide) (by decide)) q180a q180c (g := (mkF m 188 #[.val (.int p0), .val (.int p1), .val (.int p2), .val (.int p3), .val (.int p4), .val (.int p5), .val (.int i101), .val (.int i102), .val (.int i103), .val (.int i104), .val (.int i105), .val (.int i107), .val (.int i109), .val (.ref r110), .val (.ref r112), .val (.ref b113), .val (.int (0 : Int32))] [(.ref r112), (.ref b113)])) rfl (by rw [hml]; rfl) (Steps.refl _) (argsL := [(.ref r112)]) (rest := []) (lenOf own_pd7 rfl) rfl (by show 2 * 0 + _ ≤ _; exact Nat.le_of_eq rfl) (hb hby at_188) (fun _ _ => ⟨rfl, e117, (by decide : 9 + 0 ≤ _), (by decide : 20 + 0 ≤ _)⟩)
          dsimp only [Pt.U, Pt.locs, Pt.cells, Pt.slots] at X180 l180 y180 z180 st180 hQ180
          subst l180 y180 z180
          obtain ⟨o180, M180, e180⟩ := hQ180
          have N180 := Fr.app N117 M180
          obtain ⟨rfl, -⟩ := own_pickN o180 (fun q => hc119 ((own_txt_eq (own_rem3 gi102) (own_rem3 gi103)).mp q).1)
          refine own_tr (S' := T180.setTop (mkF m 191 #[.val (.int p0), .val (.int p1), .val (.int p2), .val (.int p3), .val (.int p4), .val (.int p5), .val (.int i101), .val (.int i102), .val (.int i103), .val (.int i104), .val (.int i105), .val (.int i107), .val (.int i109), .val (.ref r110), .val (.ref r112), .val (.ref b113), .val (.int (0 : Int32))] [(.int (0 : Int32))])) st180 ?_
          refine own_st (S' := T180.setTop (mkF m 201 #[.val (.int p0), .val (.int p1), .val (.int p2), .val (.int p3), .val (.int p4), .val (.int p5), .val (.int i101), .val (.int i102), .val (.int i103), .val (.int i104), .val (.int i105), .val (.int i107), .val (.int i109), .val (.ref r110), .val (.ref r112), .val (.ref b113), .val (.int (0 : Int32))] [(.int (1 : Int32))])) (fun _ k => XS.iload X180.here hx rfl (hb hby at_191) rfl (XS.icmpNo X180.here hx rfl (hb hby at_193) rfl (by decide) (XS.iconst X180.here hx rfl (hb hby at_196) (XS.goto X180.here hx rfl (pc0 := 197) (pc' := 201) rfl (hb hby at_197) (by decide) (by decide) k)))) ?_
          refine own_retW X180 hx ss112 (by rw [e180]; exact Nat.le_trans (Nat.le_refl _) (Nat.le_trans E113.1 K117.1)) Bd.returns hlk rfl (Or.inl ⟨rfl, (by simp), _, rfl⟩) (hb hby at_201) (by decide) (by decide) ?_
          rw [e180]
          exact ⟨rfl, N180⟩
      · refine own_st (S' := T117.setTop (mkF m 186 #[.val (.int p0), .val (.int p1), .val (.int p2), .val (.int p3), .val (.int p4), .val (.int p5), .val (.int i101), .val (.int i102), .val (.int i103), .val (.int i104), .val (.int i105), .val (.int i107), .val (.int i109), .val (.ref r110), .val (.ref r112), .val (.ref b113), .val (.int (0 : Int32))] [(.ref b113)])) (fun _ k => XS.icmpYes X117.here hx rfl (pc0 := 141) (pc' := 181) rfl (hb hby at_141) rfl (feq hc118).2 (by decide) (by decide) (XS.iconst X117.here hx rfl (hb hby at_181) (XS.istore X117.here hx rfl (hb hby at_182) rfl (l' := #[.val (.int p0), .val (.int p1), .val (.int p2), .val (.int p3), .val (.int p4), .val (.int p5), .val (.int i101), .val (.int i102), .val (.int i103), .val (.int i104), .val (.int i105), .val (.int i107), .val (.int i109), .val (.ref r110), .val (.ref r112), .val (.ref b113), .val (.int (0 : Int32))]) rfl (XS.aload X117.here hx rfl (hb hby at_184) rfl rfl k)))) ?_
        refine own_st (S' := T117.setTop (mkF m 188 #[.val (.int p0), .val (.int p1), .val (.int p2), .val (.int p3), .val (.int p4), .val (.int p5), .val (.int i101), .val (.int i102), .val (.int i103), .val (.int i104), .val (.int i105), .val (.int i107), .val (.int i109), .val (.ref r110), .val (.ref r112), .val (.ref b113), .val (.int (0 : Int32))] [(.ref r112), (.ref b113)])) (fun _ k => XS.aload X117.here hx rfl (hb hby at_186) rfl rfl k) ?_
        have hne : r116 ≠ k5 := o116.elim (fun q => absurd q.1 hc118) fun q => q.2
        have XO182 : Old Z n0 h117 := (XO115.keep K117 (allS (Nat.le_trans Z0 (Nat.le_trans (Nat.le_trans E110.1 E112.1) (Nat.le_of_eq g113.symm))) all0))
        have A184 : Exa Z h117 b113 "com/example/librow/librow/QueryLexer$Token" := (A113.keep K117)
        obtain ⟨cq183, kq183, q183a, q183b, q183c⟩ := isOf hz112 e117 A184
        obtain ⟨_, _, ⟨T183, L183, k183, n183⟩, -, X183, ⟨Lc183, hQ183, l183, y183, z183⟩, st183⟩ := X117.virtualBack hx (y := (⟨"com/example/librow/librow/QueryLexer$Token", "isSymbol", "(Ljava/lang/String;)Z"⟩ : MethodName)) (z := (⟨"com/example/librow/librow/QueryLexer$Token", "isSymbol", "(Ljava/lang/String;)Z"⟩ : MethodName)) ho112 (mvT hz112 (hw _ own_w64)) (mvT hz112 (hw _ own_w65)) (notFace_of_selects (args := #[]) (mvT hz112 (hw _ own_w67))) (mvT hz112 (hw _ own_w67)) (mvT hz112 (hw _ own_w66)) (by decide) (backOf (W := 0) (own_rm_isn l Z a0 hw G1 S1 P1 hCH hCW k0 k1 k2 k3 k4 k5 k6 B [] b113 r112 r116 h117 n0 (Nat.le_trans Z0 (Nat.le_trans (Nat.le_trans (Nat.le_trans E110.1 E112.1) E113.1) K117.1)) XO182 Fk117 hne) hz112 (hw _ own_w68) (hw _ own_w40) (by decide) (by decide)) q183a q183c (g := (mkF m 188 #[.val (.int p0), .val (.int p1), .val (.int p2), .val (.int p3), .val (.int p4), .val (.int p5), .val (.int i101), .val (.int i102), .val (.int i103), .val (.int i104), .val (.int i105), .val (.int i107), .val (.int i109), .val (.ref r110), .val (.ref r112), .val (.ref b113), .val (.int (0 : Int32))] [(.ref r112), (.ref b113)])) rfl (by rw [hml]; rfl) (Steps.refl _) (argsL := [(.ref r112)]) (rest := []) (lenOf own_pd7 rfl) rfl (by show 2 * 0 + _ ≤ _; exact Nat.le_of_eq rfl) (hb hby at_188) (fun _ _ => ⟨rfl, e117, (by decide : 9 + 0 ≤ _), (by decide : 20 + 0 ≤ _)⟩)
        dsimp only [Pt.U, Pt.locs, Pt.cells, Pt.slots] at X183 l183 y183 z183 st183 hQ183
        subst l183 y183 z183
        obtain ⟨rfl, M183, e183⟩ := hQ183
        have N183 := Fr.app N117 M183
        refine own_tr (S' := T183.setTop (mkF m 191 #[.val (.int p0), .val (.int p1), .val (.int p2), .val (.int p3), .val (.int p4), .val (.int p5), .val (.int i101), .val (.int i102), .val (.int i103), .val (.int i104), .val (.int i105), .val (.int i107), .val (.int i109), .val (.ref r110), .val (.ref r112), .val (.ref b113), .val (.int (0 : Int32))] [(.int (0 : Int32))])) st183 ?_
        refine own_st (S' := T183.setTop (mkF m 201 #[.val (.int p0), .val (.int p1), .val (.int p2), .val (.int p3), .val (.int p4), .val (.int p5), .val (.int i101), .val (.int i102), .val (.int i103), .val (.int i104), .val (.int i105), .val (.int i107), .val (.int i109), .val (.ref r110), .val (.ref r112), .val (.ref b113), .val (.int (0 : Int32))] [(.int (1 : Int32))])) (fun _ k => XS.iload X183.here hx rfl (hb hby at_191) rfl (XS.icmpNo X183.here hx rfl (hb hby at_193) rfl (by decide) (XS.iconst X183.here hx rfl (hb hby at_196) (XS.goto X183.here hx rfl (pc0 := 197) (pc' := 201) rfl (hb hby at_197) (by decide) (by decide) k)))) ?_
        refine own_retW X183 hx ss112 (by rw [e183]; exact Nat.le_trans (Nat.le_refl _) (Nat.le_trans E113.1 K117.1)) Bd.returns hlk rfl (Or.inl ⟨rfl, (by simp), _, rfl⟩) (hb hby at_201) (by decide) (by decide) ?_
        rw [e183]
        exact ⟨rfl, N183⟩
    · refine own_st (S' := s₁.setTop (mkF m 96 #[.val (.int p0), .val (.int p1), .val (.int p2), .val (.int p3), .val (.int p4), .val (.int p5), .val (.int i101), .val (.int i102), .val (.int i103), .val (.int i104), .val (.int i105), .val (.int i107), .val (.int i105), .unset, .unset, .unset, .unset] [])) (fun _ k => XS.ifNo X0.here hx rfl (hb hby at_77) rfl ((if0 _ _).trans (feq hc108).1) (XS.iload X0.here hx rfl (hb hby at_80) rfl (XS.goto X0.here hx rfl (pc0 := 82) (pc' := 94) rfl (hb hby at_82) (by decide) (by decide) (XS.istore X0.here hx rfl (hb hby at_94) rfl (l' := #[.val (.int p0), .val (.int p1), .val (.int p2), .val (.int p3), .val (.int p4), .val (.int p5), .val (.int i101), .val (.int i102), .val (.int i103), .val (.int i104), .val (.int i105), .val (.int i107), .val (.int i105), .unset, .unset, .unset, .unset]) rfl k)))) ?_
      refine own_st (S' := s₁.setTop (mkF m 102 #[.val (.int p0), .val (.int p1), .val (.int p2), .val (.int p3), .val (.int p4), .val (.int p5), .val (.int i101), .val (.int i102), .val (.int i103), .val (.int i104), .val (.int i105), .val (.int i107), .val (.int i105), .unset, .unset, .unset, .unset] [(.int i105), (.int i104), (.int i102)])) (fun _ k => XS.iload X0.here hx rfl (hb hby at_96) rfl (XS.iload X0.here hx rfl (hb hby at_98) rfl (XS.iload X0.here hx rfl (hb hby at_100) rfl k))) ?_
      obtain ⟨_, _, ⟨T185, L185, k185, n185⟩, -, X185, sn185, sg185, ⟨Lc185, hQ185, l185, y185, z185⟩, st185⟩ := callSS X0 hx (y := (⟨"com/example/librow/librow/TokenIsSymbolPinLaw", "str", "(ICC)Ljava/lang/String;"⟩ : MethodName)) hown (mvT hZ (hw _ own_w1)) (mvT hZ (hw _ own_w2)) (mvT hZ (hw _ own_w3)) (mvT hZ (hw _ own_w4)) (by decide) (own_backS (W := 0) (own_rm_str l Z a0 hw G1 S1 P1 hCH hCW k0 k1 k2 k3 k4 k5 k6 B [] i102 i104 i105 h0 n0 (Nat.le_trans Z0 (Nat.le_refl _)) XO (own_chr gi104) (own_chr gi105)) hZ (hw _ own_w4) (hw _ own_w3) (by decide) (by decide)) (g := (mkF m 102 #[.val (.int p0), .val (.int p1), .val (.int p2), .val (.int p3), .val (.int p4), .val (.int p5), .val (.int i101), .val (.int i102), .val (.int i103), .val (.int i104), .val (.int i105), .val (.int i107), .val (.int i105), .unset, .unset, .unset, .unset] [(.int i105), (.int i104), (.int i102)])) rfl (by rw [hml]; rfl) (argsL := [(.int i102), (.int i104), (.int i105)]) (rest := []) (lenOf own_pd4 rfl) rfl (by show 2 * 0 + _ ≤ _; exact Nat.le_of_eq rfl) (hb hby at_102) (fun _ hv => ⟨rfl, e0, (by decide : 0 + 4 ≤ _), (by decide : 0 + 8 ≤ _), hLS.warm hv⟩)
      dsimp only [Pt.U, Pt.locs, Pt.cells, Pt.slots] at X185 l185 y185 z185 st185 hQ185 sn185 sg185
      subst l185 y185 z185
      obtain ⟨XX185, ss185, hz185, ho185⟩ := rebS sn0 (n1 := s₁.heap.size) (by rw [e0]; exact Nat.le_trans (Nat.zero_le _) (Nat.le_refl _)) X185 sn185 sg185 hZ hown
      obtain ⟨r185, rfl, M185, E185, g185, Y185, LS185⟩ := hQ185
      have N185 := Fr.app N0 M185
      obtain ⟨h185, e185⟩ : ∃ z, T185.heap = z := ⟨_, rfl⟩
      rw [e185] at E185 LS185 ss185 Y185
      refine own_tr (S' := T185.setTop (mkF m 105 #[.val (.int p0), .val (.int p1), .val (.int p2), .val (.int p3), .val (.int p4), .val (.int p5), .val (.int i101), .val (.int i102), .val (.int i103), .val (.int i104), .val (.int i105), .val (.int i107), .val (.int i105), .unset, .unset, .unset, .unset] [(.ref r185)])) st185 ?_
      refine own_st (S' := T185.setTop (mkF m 113 #[.val (.int p0), .val (.int p1), .val (.int p2), .val (.int p3), .val (.int p4), .val (.int p5), .val (.int i101), .val (.int i102), .val (.int i103), .val (.int i104), .val (.int i105), .val (.int i107), .val (.int i105), .val (.ref r185), .unset, .unset, .unset] [(.int i105), (.int i107), (.int i103)])) (fun _ k => XS.astore XX185.here hx rfl (hb hby at_105) rfl rfl (l' := #[.val (.int p0), .val (.int p1), .val (.int p2), .val (.int p3), .val (.int p4), .val (.int p5), .val (.int i101), .val (.int i102), .val (.int i103), .val (.int i104), .val (.int i105), .val (.int i107), .val (.int i105), .val (.ref r185), .unset, .unset, .unset]) rfl (XS.iload XX185.here hx rfl (hb hby at_107) rfl (XS.iload XX185.here hx rfl (hb hby at_109) rfl (XS.iload XX185.here hx rfl (hb hby at_111) rfl k)))) ?_
      have XO186 : Old Z n0 h185 := (XO.ext E185)
      obtain ⟨_, _, ⟨T187, L187, k187, n187⟩, -, X187, sn187, sg187, ⟨Lc187, hQ187, l187, y187, z187⟩, st187⟩ := callSS XX185 hx (y := (⟨"com/example/librow/librow/TokenIsSymbolPinLaw", "str", "(ICC)Ljava/lang/String;"⟩ : MethodName)) ho185 (mvT hz185 (hw _ own_w1)) (mvT hz185 (hw _ own_w2)) (mvT hz185 (hw _ own_w3)) (mvT hz185 (hw _ own_w4)) (by decide) (own_backS (W := 0) (own_rm_str l Z a0 hw G1 S1 P1 hCH hCW k0 k1 k2 k3 k4 k5 k6 B [] i103 i107 i105 h185 n0 (Nat.le_trans Z0 E185.1) XO186 (own_chr gi107) (own_chr gi105)) hz185 (hw _ own_w4) (hw _ own_w3) (by decide) (by decide)) (g := (mkF m 113 #[.val (.int p0), .val (.int p1), .val (.int p2), .val (.int p3), .val (.int p4), .val (.int p5), .val (.int i101), .val (.int i102), .val (.int i103), .val (.int i104), .val (.int i105), .val (.int i107), .val (.int i105), .val (.ref r185), .unset, .unset, .unset] [(.int i105), (.int i107), (.int i103)])) rfl (by rw [hml]; rfl) (argsL := [(.int i103), (.int i107), (.int i105)]) (rest := []) (lenOf own_pd4 rfl) rfl (by show 2 * 0 + _ ≤ _; exact Nat.le_of_eq rfl) (hb hby at_113) (fun _ hv => ⟨rfl, e185, (by decide : 4 + 4 ≤ _), (by decide : 8 + 8 ≤ _), LS185.warm hv⟩)
      dsimp only [Pt.U, Pt.locs, Pt.cells, Pt.slots] at X187 l187 y187 z187 st187 hQ187 sn187 sg187
      subst l187 y187 z187
      obtain ⟨XX187, ss187, hz187, ho187⟩ := rebS ss185 (n1 := T185.heap.size) (by rw [e185]; exact Nat.le_trans (Nat.le_refl _) (Nat.le_refl _)) X187 sn187 sg187 hz185 ho185
      obtain ⟨r187, rfl, M187, E187, g187, Y187, LS187⟩ := hQ187
      have N187 := Fr.app N185 M187
      obtain ⟨h187, e187⟩ : ∃ z, T187.heap = z := ⟨_, rfl⟩
      rw [e187] at E187 LS187 ss187 Y187
      refine own_tr (S' := T187.setTop (mkF m 116 #[.val (.int p0), .val (.int p1), .val (.int p2), .val (.int p3), .val (.int p4), .val (.int p5), .val (.int i101), .val (.int i102), .val (.int i103), .val (.int i104), .val (.int i105), .val (.int i107), .val (.int i105), .val (.ref r185), .unset, .unset, .unset] [(.ref r187)])) st187 ?_
      refine own_st (S' := T187.setTop (mkF m 118 #[.val (.int p0), .val (.int p1), .val (.int p2), .val (.int p3), .val (.int p4), .val (.int p5), .val (.int i101), .val (.int i102), .val (.int i103), .val (.int i104), .val (.int i105), .val (.int i107), .val (.int i105), .val (.ref r185), .val (.ref r187), .unset, .unset] [])) (fun _ k => XS.astore XX187.here hx rfl (hb hby at_116) rfl rfl (l' := #[.val (.int p0), .val (.int p1), .val (.int p2), .val (.int p3), .val (.int p4), .val (.int p5), .val (.int i101), .val (.int i102), .val (.int i103), .val (.int i104), .val (.int i105), .val (.int i107), .val (.int i105), .val (.ref r185), .val (.ref r187), .unset, .unset]) rfl k) ?_
      obtain ⟨T188, h188, X188, e188, E188, A188, D188, -, st188⟩ := newO XX187 hx hz187 ho187 (hw _ own_w38) (hw _ own_w39) (hw _ own_w40) e187 (g := (mkF m 118 #[.val (.int p0), .val (.int p1), .val (.int p2), .val (.int p3), .val (.int p4), .val (.int p5), .val (.int i101), .val (.int i102), .val (.int i103), .val (.int i104), .val (.int i105), .val (.int i107), .val (.int i105), .val (.ref r185), .val (.ref r187), .unset, .unset] [])) rfl (hb hby at_118) (by decide) (by decide)
      obtain ⟨b188, g188⟩ : ∃ z, z = h187.size := ⟨_, rfl⟩
      rw [← g188] at A188 D188 st188
      refine own_st (S' := T188.setTop (mkF m 121 #[.val (.int p0), .val (.int p1), .val (.int p2), .val (.int p3), .val (.int p4), .val (.int p5), .val (.int i101), .val (.int i102), .val (.int i103), .val (.int i104), .val (.int i105), .val (.int i107), .val (.int i105), .val (.ref r185), .val (.ref r187), .unset, .unset] [(.ref b188)])) st188 ?_
      refine own_st (S' := T188.setTop (mkF m 124 #[.val (.int p0), .val (.int p1), .val (.int p2), .val (.int p3), .val (.int p4), .val (.int p5), .val (.int i101), .val (.int i102), .val (.int i103), .val (.int i104), .val (.int i105), .val (.int i107), .val (.int i105), .val (.ref r185), .val (.ref r187), .unset, .unset] [(.int i101), (.ref b188), (.ref b188)])) (fun _ k => XS.dup X188.here hx rfl (hb hby at_121) rfl rfl (XS.iload X188.here hx rfl (hb hby at_122) rfl k)) ?_
      have XE189 : Ext h185 h188 := (own_xt E187 E188)
      have XO190 : Old Z n0 h188 := (XO186.ext XE189)
      obtain ⟨_, _, ⟨T191, L191, k191, n191⟩, -, X191, ⟨Lc191, hQ191, l191, y191, z191⟩, st191⟩ := Jvm.LawKit.callS X188 hx (y := (⟨"com/example/librow/librow/TokenIsSymbolPinLaw", "kind", "(I)Lcom/example/librow/librow/QueryLexer$Kind;"⟩ : MethodName)) ho187 (mvT hz187 (hw _ own_w41)) (mvT hz187 (hw _ own_w42)) (mvT hz187 (hw _ own_w3)) (mvT hz187 (hw _ own_w43)) (by decide) (backOf (W := 2) (own_rm_kind l Z a0 hw G1 S1 P1 hCH hCW k0 k1 k2 k3 k4 k5 k6 B [] i101 h188 n0 (Nat.le_trans Z0 (Nat.le_trans (Nat.le_trans E185.1 E187.1) E188.1)) XO190 ) hz187 (hw _ own_w43) (hw _ own_w3) (by decide) (by decide)) (g := (mkF m 124 #[.val (.int p0), .val (.int p1), .val (.int p2), .val (.int p3), .val (.int p4), .val (.int p5), .val (.int i101), .val (.int i102), .val (.int i103), .val (.int i104), .val (.int i105), .val (.int i107), .val (.int i105), .val (.ref r185), .val (.ref r187), .unset, .unset] [(.int i101), (.ref b188), (.ref b188)])) rfl (by rw [hml]; rfl) (argsL := [(.int i101)]) (rest := [(.ref b188), (.ref b188)]) (lenOf own_pd5 rfl) rfl (by show 2 * 0 + _ ≤ _; exact Nat.le_of_eq rfl) (hb hby at_124) (fun _ _ => ⟨rfl, e188, (by decide : 9 + 0 ≤ _), (by decide : 20 + 0 ≤ _)⟩)
      dsimp only [Pt.U, Pt.locs, Pt.cells, Pt.slots] at X191 l191 y191 z191 st191 hQ191
      subst l191 y191 z191
      obtain ⟨r191, rfl, M191, e191, o191⟩ := hQ191
      have N191 := Fr.app N187 M191
      refine own_st (S' := T191.setTop (mkF m 127 #[.val (.int p0), .val (.int p1), .val (.int p2), .val (.int p3), .val (.int p4), .val (.int p5), .val (.int i101), .val (.int i102), .val (.int i103), .val (.int i104), .val (.int i105), .val (.int i107), .val (.int i105), .val (.ref r185), .val (.ref r187), .unset, .unset] [(.ref r191), (.ref b188), (.ref b188)])) st191 ?_
      refine own_st (S' := T191.setTop (mkF m 133 #[.val (.int p0), .val (.int p1), .val (.int p2), .val (.int p3), .val (.int p4), .val (.int p5), .val (.int i101), .val (.int i102), .val (.int i103), .val (.int i104), .val (.int i105), .val (.int i107), .val (.int i105), .val (.ref r185), .val (.ref r187), .unset, .unset] [(.int p5), (.int p4), (.ref r185), (.ref r191), (.ref b188), (.ref b188)])) (fun _ k => XS.aload X191.here hx rfl (hb hby at_127) rfl rfl (XS.iload X191.here hx rfl (hb hby at_129) rfl (XS.iload X191.here hx rfl (hb hby at_131) rfl k))) ?_
      obtain ⟨_, _, ⟨T192, L192, k192, n192⟩, -, X192, ⟨Lc192, hQ192, l192, y192, z192⟩, st192⟩ := X191.specialBack hx (y := (⟨"com/example/librow/librow/QueryLexer$Token", "<init>", "(Lcom/example/librow/librow/QueryLexer$Kind;Ljava/lang/String;II)V"⟩ : MethodName)) rfl ho187 (mvT hz187 (hw _ own_w47)) (mvT hz187 (hw _ own_w48)) (mvT hz187 (hw _ own_w49)) (by decide) (backOf (W := 1) (own_rm_tok l Z a0 hw G1 S1 P1 hCH hCW k0 k1 k2 k3 k4 k5 k6 B [] b188 r191 r185 p4 p5 h188 n0 (Nat.le_trans Z0 (Nat.le_trans (Nat.le_trans E185.1 E187.1) E188.1)) XO190 (Nat.le_trans Z0 (Nat.le_trans (Nat.le_trans E185.1 E187.1) (Nat.le_of_eq g188.symm))) A188 (D188 (Or.inr (hw _ own_w57)) (ty := (.object "com/example/librow/librow/QueryLexer$Kind")) (by decide)) (D188 (Or.inr (hw _ own_w59)) (ty := (.object "java/lang/String")) (by decide)) (D188 (Or.inr (hw _ own_w61)) (ty := .int) (by decide)) (D188 (Or.inr (hw _ own_w63)) (ty := .int) (by decide))) hz187 (hw _ own_w49) (hw _ own_w40) (by decide) (by decide)) (g := (mkF m 133 #[.val (.int p0), .val (.int p1), .val (.int p2), .val (.int p3), .val (.int p4), .val (.int p5), .val (.int i101), .val (.int i102), .val (.int i103), .val (.int i104), .val (.int i105), .val (.int i107), .val (.int i105), .val (.ref r185), .val (.ref r187), .unset, .unset] [(.int p5), (.int p4), (.ref r185), (.ref r191), (.ref b188), (.ref b188)])) rfl (by rw [hml]; rfl) (Steps.refl _) (a := b188) (argsL := [(.ref r191), (.ref r185), (.int p4), (.int p5)]) (rest := [(.ref b188)]) (lenOf own_pd6 rfl) rfl (by show 2 * 0 + _ ≤ _; exact Nat.le_of_eq rfl) (hb hby at_133) (fun _ _ => ⟨rfl, e191, (by decide : 9 + 0 ≤ _), (by decide : 20 + 0 ≤ _)⟩)
      dsimp only [Pt.U, Pt.locs, Pt.cells, Pt.slots] at X192 l192 y192 z192 st192 hQ192
      subst l192 y192 z192
      obtain ⟨rfl, M192, K192, Fk192, Ft192⟩ := hQ192
      have N192 := Fr.app N191 M192
      obtain ⟨h192, e192⟩ : ∃ z, T192.heap = z := ⟨_, rfl⟩
      rw [e192] at K192 Fk192 Ft192
      refine own_tr (S' := T192.setTop (mkF m 136 #[.val (.int p0), .val (.int p1), .val (.int p2), .val (.int p3), .val (.int p4), .val (.int p5), .val (.int i101), .val (.int i102), .val (.int i103), .val (.int i104), .val (.int i105), .val (.int i107), .val (.int i105), .val (.ref r185), .val (.ref r187), .unset, .unset] [(.ref b188)])) st192 ?_
      refine own_st (S' := T192.setTop (mkF m 141 #[.val (.int p0), .val (.int p1), .val (.int p2), .val (.int p3), .val (.int p4), .val (.int p5), .val (.int i101), .val (.int i102), .val (.int i103), .val (.int i104), .val (.int i105), .val (.int i107), .val (.int i105), .val (.ref r185), .val (.ref r187), .val (.ref b188), .unset] [(.int (5 : Int32)), (.int i101)])) (fun _ k => XS.astore X192.here hx rfl (hb hby at_136) rfl rfl (l' := #[.val (.int p0), .val (.int p1), .val (.int p2), .val (.int p3), .val (.int p4), .val (.int p5), .val (.int i101), .val (.int i102), .val (.int i103), .val (.int i104), .val (.int i105), .val (.int i107), .val (.int i105), .val (.ref r185), .val (.ref r187), .val (.ref b188), .unset]) rfl (XS.iload X192.here hx rfl (hb hby at_138) rfl (XS.iconst X192.here hx rfl (hb hby at_140) k))) ?_
      by_cases hc193 : i101 = (5 : Int32)
      · refine own_st (S' := T192.setTop (mkF m 148 #[.val (.int p0), .val (.int p1), .val (.int p2), .val (.int p3), .val (.int p4), .val (.int p5), .val (.int i101), .val (.int i102), .val (.int i103), .val (.int i104), .val (.int i105), .val (.int i107), .val (.int i105), .val (.ref r185), .val (.ref r187), .val (.ref b188), .unset] [(.int i103), (.int i102)])) (fun _ k => XS.icmpNo X192.here hx rfl (hb hby at_141) rfl (teq hc193).2 (XS.iload X192.here hx rfl (hb hby at_144) rfl (XS.iload X192.here hx rfl (hb hby at_146) rfl k))) ?_
        by_cases hc194 : i102 = i103
        · refine own_st (S' := T192.setTop (mkF m 154 #[.val (.int p0), .val (.int p1), .val (.int p2), .val (.int p3), .val (.int p4), .val (.int p5), .val (.int i101), .val (.int i102), .val (.int i103), .val (.int i104), .val (.int i105), .val (.int i107), .val (.int i105), .val (.ref r185), .val (.ref r187), .val (.ref b188), .unset] [(.int (1 : Int32)), (.int i102)])) (fun _ k => XS.icmpNo X192.here hx rfl (hb hby at_148) rfl (teq hc194).2 (XS.iload X192.here hx rfl (hb hby at_151) rfl (XS.iconst X192.here hx rfl (hb hby at_153) k))) ?_
          by_cases hc195 : i102 < (1 : Int32)
          · refine own_st (S' := T192.setTop (mkF m 167 #[.val (.int p0), .val (.int p1), .val (.int p2), .val (.int p3), .val (.int p4), .val (.int p5), .val (.int i101), .val (.int i102), .val (.int i103), .val (.int i104), .val (.int i105), .val (.int i107), .val (.int i105), .val (.ref r185), .val (.ref r187), .val (.ref b188), .unset] [(.int (2 : Int32)), (.int i102)])) (fun _ k => XS.icmpYes X192.here hx rfl (pc0 := 154) (pc' := 164) rfl (hb hby at_154) rfl (tlt hc195).1 (by decide) (by decide) (XS.iload X192.here hx rfl (hb hby at_164) rfl (XS.iconst X192.here hx rfl (hb hby at_166) k))) ?_
            by_cases hc196 : i102 < (2 : Int32)
            · refine own_st (S' := T192.setTop (mkF m 184 #[.val (.int p0), .val (.int p1), .val (.int p2), .val (.int p3), .val (.int p4), .val (.int p5), .val (.int i101), .val (.int i102), .val (.int i103), .val (.int i104), .val (.int i105), .val (.int i107), .val (.int i105), .val (.ref r185), .val (.ref r187), .val (.ref b188), .val (.int (1 : Int32))] [])) (fun _ k => XS.icmpYes X192.here hx rfl (pc0 := 167) (pc' := 177) rfl (hb hby at_167) rfl (tlt hc196).1 (by decide) (by decide) (XS.iconst X192.here hx rfl (hb hby at_177) (XS.goto X192.here hx rfl (pc0 := 178) (pc' := 182) rfl (hb hby at_178) (by decide) (by decide) (XS.istore X192.here hx rfl (hb hby at_182) rfl (l' := #[.val (.int p0), .val (.int p1), .val (.int p2), .val (.int p3), .val (.int p4), .val (.int p5), .val (.int i101), .val (.int i102), .val (.int i103), .val (.int i104), .val (.int i105), .val (.int i107), .val (.int i105), .val (.ref r185), .val (.ref r187), .val (.ref b188), .val (.int (1 : Int32))]) rfl k)))) ?_
              refine own_st (S' := T192.setTop (mkF m 188 #[.val (.int p0), .val (.int p1), .val (.int p2), .val (.int p3), .val (.int p4), .val (.int p5), .val (.int i101), .val (.int i102), .val (.int i103), .val (.int i104), .val (.int i105), .val (.int i107), .val (.int i105), .val (.ref r185), .val (.ref r187), .val (.ref b188), .val (.int (1 : Int32))] [(.ref r187), (.ref b188)])) (fun _ k => XS.aload X192.here hx rfl (hb hby at_184) rfl rfl (XS.aload X192.here hx rfl (hb hby at_186) rfl rfl k)) ?_
              have hke : r191 = k5 := o191.elim (fun q => q.2) fun q => absurd hc193 q.1
              have Fk5 : Fld Z h192 b188 "com/example/librow/librow/QueryLexer$Token" "kind" "Lcom/example/librow/librow/QueryLexer$Kind;" (.ref k5) := hke ▸ Fk192
              have XE197 : Ext h185 h192 := (own_xk XE189 K192 (allS (Nat.le_trans E187.1 (Nat.le_of_eq g188.symm)) all0))
              have G198 : own_Str Z h192 r185 (own_txt i102 i104 i105) := (Y185.ext XE197)
              have XE199 : Ext h187 h192 := (own_xk E188 K192 (allS (Nat.le_of_eq g188.symm) all0))
              have G200 : own_Str Z h192 r187 (own_txt i103 i107 i105) := (Y187.ext XE199)
              have XO201 : Old Z n0 h192 := (XO190.keep K192 (allS (Nat.le_trans Z0 (Nat.le_trans (Nat.le_trans E185.1 E187.1) (Nat.le_of_eq g188.symm))) all0))
              have A203 : Exa Z h192 b188 "com/example/librow/librow/QueryLexer$Token" := (A188.keep K192)
              obtain ⟨cq202, kq202, q202a, q202b, q202c⟩ := isOf hz187 e192 A203
              obtain ⟨_, _, ⟨T202, L202, k202, n202⟩, -, X202, ⟨Lc202, hQ202, l202, y202, z202⟩, st202⟩ := X192.virtualBack hx (y := (⟨"com/example/librow/librow/QueryLexer$Token", "isSymbol", "(Ljava/lang/String;)Z"⟩ : MethodName)) (z := (⟨"com/example/librow/librow/QueryLexer$Token", "isSymbol", "(Ljava/lang/String;)Z"⟩ : MethodName)) ho187 (mvT hz187 (hw _ own_w64)) (mvT hz187 (hw _ own_w65)) (notFace_of_selects (args := #[]) (mvT hz187 (hw _ own_w67))) (mvT hz187 (hw _ own_w67)) (mvT hz187 (hw _ own_w66)) (by decide) (backOf (W := 0) (own_rm_isy l Z a0 hw G1 S1 P1 hCH hCW k0 k1 k2 k3 k4 k5 k6 B [] b188 r187 r185 (own_txt i102 i104 i105) (own_txt i103 i107 i105) h192 n0 (Nat.le_trans Z0 (Nat.le_trans (Nat.le_trans (Nat.le_trans E185.1 E187.1) E188.1) K192.1)) XO201 Fk5 Ft192 G198 G200) hz187 (hw _ own_w68) (hw _ own_w40) (by decide) (by decide)) q202a q202c (g := (mkF m 188 #[.val (.int p0), .val (.int p1), .val (.int p2), .val (.int p3), .val (.int p4), .val (.int p5), .val (.int i101), .val (.int i102), .val (.int i103), .val (.int i104), .val (.int i105), .val (.int i107), .val (.int i105), .val (.ref r185), .val (.ref r187), .val (.ref b188), .val (.int (1 : Int32))] [(.ref r187), (.ref b188)])) rfl (by rw [hml]; rfl) (Steps.refl _) (argsL := [(.ref r187)]) (rest := []) (lenOf own_pd7 rfl) rfl (by show 2 * 0 + _ ≤ _; exact Nat.le_of_eq rfl) (hb hby at_188) (fun _ _ => ⟨rfl, e192, (by decide : 9 + 0 ≤ _), (by decide : 20 + 0 ≤ _)⟩)
              dsimp only [Pt.U, Pt.locs, Pt.cells, Pt.slots] at X202 l202 y202 z202 st202 hQ202
              subst l202 y202 z202
              obtain ⟨o202, M202, e202⟩ := hQ202
              have N202 := Fr.app N192 M202
              obtain ⟨rfl, -⟩ := own_pickY o202 ((own_txt_eq (own_rem3 gi102) (own_rem3 gi103)).mpr ⟨hc194, Or.inl hc195, Or.inl hc196⟩)
              refine own_tr (S' := T202.setTop (mkF m 191 #[.val (.int p0), .val (.int p1), .val (.int p2), .val (.int p3), .val (.int p4), .val (.int p5), .val (.int i101), .val (.int i102), .val (.int i103), .val (.int i104), .val (.int i105), .val (.int i107), .val (.int i105), .val (.ref r185), .val (.ref r187), .val (.ref b188), .val (.int (1 : Int32))] [(.int (1 : Int32))])) st202 ?_
              refine own_st (S' := T202.setTop (mkF m 201 #[.val (.int p0), .val (.int p1), .val (.int p2), .val (.int p3), .val (.int p4), .val (.int p5), .val (.int i101), .val (.int i102), .val (.int i103), .val (.int i104), .val (.int i105), .val (.int i107), .val (.int i105), .val (.ref r185), .val (.ref r187), .val (.ref b188), .val (.int (1 : Int32))] [(.int (1 : Int32))])) (fun _ k => XS.iload X202.here hx rfl (hb hby at_191) rfl (XS.icmpNo X202.here hx rfl (hb hby at_193) rfl (by decide) (XS.iconst X202.here hx rfl (hb hby at_196) (XS.goto X202.here hx rfl (pc0 := 197) (pc' := 201) rfl (hb hby at_197) (by decide) (by decide) k)))) ?_
              refine own_retW X202 hx ss187 (by rw [e202]; exact Nat.le_trans (Nat.le_refl _) (Nat.le_trans E188.1 K192.1)) Bd.returns hlk rfl (Or.inl ⟨rfl, (by simp), _, rfl⟩) (hb hby at_201) (by decide) (by decide) ?_
              rw [e202]
              exact ⟨rfl, N202⟩
            · refine own_st (S' := T192.setTop (mkF m 177 #[.val (.int p0), .val (.int p1), .val (.int p2), .val (.int p3), .val (.int p4), .val (.int p5), .val (.int i101), .val (.int i102), .val (.int i103), .val (.int i104), .val (.int i105), .val (.int i107), .val (.int i105), .val (.ref r185), .val (.ref r187), .val (.ref b188), .unset] [])) (fun _ k => XS.icmpNo X192.here hx rfl (hb hby at_167) rfl (flt hc196).1 (XS.iload X192.here hx rfl (hb hby at_170) rfl (XS.iload X192.here hx rfl (hb hby at_172) rfl (XS.icmpNo X192.here hx rfl (hb hby at_174) rfl (teq rfl).2 k)))) ?_
              refine own_st (S' := T192.setTop (mkF m 186 #[.val (.int p0), .val (.int p1), .val (.int p2), .val (.int p3), .val (.int p4), .val (.int p5), .val (.int i101), .val (.int i102), .val (.int i103), .val (.int i104), .val (.int i105), .val (.int i107), .val (.int i105), .val (.ref r185), .val (.ref r187), .val (.ref b188), .val (.int (1 : Int32))] [(.ref b188)])) (fun _ k => XS.iconst X192.here hx rfl (hb hby at_177) (XS.goto X192.here hx rfl (pc0 := 178) (pc' := 182) rfl (hb hby at_178) (by decide) (by decide) (XS.istore X192.here hx rfl (hb hby at_182) rfl (l' := #[.val (.int p0), .val (.int p1), .val (.int p2), .val (.int p3), .val (.int p4), .val (.int p5), .val (.int i101), .val (.int i102), .val (.int i103), .val (.int i104), .val (.int i105), .val (.int i107), .val (.int i105), .val (.ref r185), .val (.ref r187), .val (.ref b188), .val (.int (1 : Int32))]) rfl (XS.aload X192.here hx rfl (hb hby at_184) rfl rfl k)))) ?_
              refine own_st (S' := T192.setTop (mkF m 188 #[.val (.int p0), .val (.int p1), .val (.int p2), .val (.int p3), .val (.int p4), .val (.int p5), .val (.int i101), .val (.int i102), .val (.int i103), .val (.int i104), .val (.int i105), .val (.int i107), .val (.int i105), .val (.ref r185), .val (.ref r187), .val (.ref b188), .val (.int (1 : Int32))] [(.ref r187), (.ref b188)])) (fun _ k => XS.aload X192.here hx rfl (hb hby at_186) rfl rfl k) ?_
              have hke : r191 = k5 := o191.elim (fun q => q.2) fun q => absurd hc193 q.1
              have Fk5 : Fld Z h192 b188 "com/example/librow/librow/QueryLexer$Token" "kind" "Lcom/example/librow/librow/QueryLexer$Kind;" (.ref k5) := hke ▸ Fk192
              have XE204 : Ext h185 h192 := (own_xk XE189 K192 (allS (Nat.le_trans E187.1 (Nat.le_of_eq g188.symm)) all0))
              have G205 : own_Str Z h192 r185 (own_txt i102 i104 i105) := (Y185.ext XE204)
              have XE206 : Ext h187 h192 := (own_xk E188 K192 (allS (Nat.le_of_eq g188.symm) all0))
              have G207 : own_Str Z h192 r187 (own_txt i103 i107 i105) := (Y187.ext XE206)
              have XO208 : Old Z n0 h192 := (XO190.keep K192 (allS (Nat.le_trans Z0 (Nat.le_trans (Nat.le_trans E185.1 E187.1) (Nat.le_of_eq g188.symm))) all0))
              have A210 : Exa Z h192 b188 "com/example/librow/librow/QueryLexer$Token" := (A188.keep K192)
              obtain ⟨cq209, kq209, q209a, q209b, q209c⟩ := isOf hz187 e192 A210
              obtain ⟨_, _, ⟨T209, L209, k209, n209⟩, -, X209, ⟨Lc209, hQ209, l209, y209, z209⟩, st209⟩ := X192.virtualBack hx (y := (⟨"com/example/librow/librow/QueryLexer$Token", "isSymbol", "(Ljava/lang/String;)Z"⟩ : MethodName)) (z := (⟨"com/example/librow/librow/QueryLexer$Token", "isSymbol", "(Ljava/lang/String;)Z"⟩ : MethodName)) ho187 (mvT hz187 (hw _ own_w64)) (mvT hz187 (hw _ own_w65)) (notFace_of_selects (args := #[]) (mvT hz187 (hw _ own_w67))) (mvT hz187 (hw _ own_w67)) (mvT hz187 (hw _ own_w66)) (by decide) (backOf (W := 0) (own_rm_isy l Z a0 hw G1 S1 P1 hCH hCW k0 k1 k2 k3 k4 k5 k6 B [] b188 r187 r185 (own_txt i102 i104 i105) (own_txt i103 i107 i105) h192 n0 (Nat.le_trans Z0 (Nat.le_trans (Nat.le_trans (Nat.le_trans E185.1 E187.1) E188.1) K192.1)) XO208 Fk5 Ft192 G205 G207) hz187 (hw _ own_w68) (hw _ own_w40) (by decide) (by decide)) q209a q209c (g := (mkF m 188 #[.val (.int p0), .val (.int p1), .val (.int p2), .val (.int p3), .val (.int p4), .val (.int p5), .val (.int i101), .val (.int i102), .val (.int i103), .val (.int i104), .val (.int i105), .val (.int i107), .val (.int i105), .val (.ref r185), .val (.ref r187), .val (.ref b188), .val (.int (1 : Int32))] [(.ref r187), (.ref b188)])) rfl (by rw [hml]; rfl) (Steps.refl _) (argsL := [(.ref r187)]) (rest := []) (lenOf own_pd7 rfl) rfl (by show 2 * 0 + _ ≤ _; exact Nat.le_of_eq rfl) (hb hby at_188) (fun _ _ => ⟨rfl, e192, (by decide : 9 + 0 ≤ _), (by decide : 20 + 0 ≤ _)⟩)
              dsimp only [Pt.U, Pt.locs, Pt.cells, Pt.slots] at X209 l209 y209 z209 st209 hQ209
              subst l209 y209 z209
              obtain ⟨o209, M209, e209⟩ := hQ209
              have N209 := Fr.app N192 M209
              obtain ⟨rfl, -⟩ := own_pickY o209 ((own_txt_eq (own_rem3 gi102) (own_rem3 gi103)).mpr ⟨hc194, Or.inl hc195, Or.inr rfl⟩)
              refine own_tr (S' := T209.setTop (mkF m 191 #[.val (.int p0), .val (.int p1), .val (.int p2), .val (.int p3), .val (.int p4), .val (.int p5), .val (.int i101), .val (.int i102), .val (.int i103), .val (.int i104), .val (.int i105), .val (.int i107), .val (.int i105), .val (.ref r185), .val (.ref r187), .val (.ref b188), .val (.int (1 : Int32))] [(.int (1 : Int32))])) st209 ?_
              refine own_st (S' := T209.setTop (mkF m 201 #[.val (.int p0), .val (.int p1), .val (.int p2), .val (.int p3), .val (.int p4), .val (.int p5), .val (.int i101), .val (.int i102), .val (.int i103), .val (.int i104), .val (.int i105), .val (.int i107), .val (.int i105), .val (.ref r185), .val (.ref r187), .val (.ref b188), .val (.int (1 : Int32))] [(.int (1 : Int32))])) (fun _ k => XS.iload X209.here hx rfl (hb hby at_191) rfl (XS.icmpNo X209.here hx rfl (hb hby at_193) rfl (by decide) (XS.iconst X209.here hx rfl (hb hby at_196) (XS.goto X209.here hx rfl (pc0 := 197) (pc' := 201) rfl (hb hby at_197) (by decide) (by decide) k)))) ?_
              refine own_retW X209 hx ss187 (by rw [e209]; exact Nat.le_trans (Nat.le_refl _) (Nat.le_trans E188.1 K192.1)) Bd.returns hlk rfl (Or.inl ⟨rfl, (by simp), _, rfl⟩) (hb hby at_201) (by decide) (by decide) ?_
              rw [e209]
              exact ⟨rfl, N209⟩
          · refine own_st (S' := T192.setTop (mkF m 161 #[.val (.int p0), .val (.int p1), .val (.int p2), .val (.int p3), .val (.int p4), .val (.int p5), .val (.int i101), .val (.int i102), .val (.int i103), .val (.int i104), .val (.int i105), .val (.int i107), .val (.int i105), .val (.ref r185), .val (.ref r187), .val (.ref b188), .unset] [(.int i107), (.int i104)])) (fun _ k => XS.icmpNo X192.here hx rfl (hb hby at_154) rfl (flt hc195).1 (XS.iload X192.here hx rfl (hb hby at_157) rfl (XS.iload X192.here hx rfl (hb hby at_159) rfl k))) ?_
            by_cases hc211 : i104 = i107
            · refine own_st (S' := T192.setTop (mkF m 167 #[.val (.int p0), .val (.int p1), .val (.int p2), .val (.int p3), .val (.int p4), .val (.int p5), .val (.int i101), .val (.int i102), .val (.int i103), .val (.int i104), .val (.int i105), .val (.int i107), .val (.int i105), .val (.ref r185), .val (.ref r187), .val (.ref b188), .unset] [(.int (2 : Int32)), (.int i102)])) (fun _ k => XS.icmpNo X192.here hx rfl (hb hby at_161) rfl (teq hc211).2 (XS.iload X192.here hx rfl (hb hby at_164) rfl (XS.iconst X192.here hx rfl (hb hby at_166) k))) ?_
              by_cases hc212 : i102 < (2 : Int32)
              · refine own_st (S' := T192.setTop (mkF m 184 #[.val (.int p0), .val (.int p1), .val (.int p2), .val (.int p3), .val (.int p4), .val (.int p5), .val (.int i101), .val (.int i102), .val (.int i103), .val (.int i104), .val (.int i105), .val (.int i107), .val (.int i105), .val (.ref r185), .val (.ref r187), .val (.ref b188), .val (.int (1 : Int32))] [])) (fun _ k => XS.icmpYes X192.here hx rfl (pc0 := 167) (pc' := 177) rfl (hb hby at_167) rfl (tlt hc212).1 (by decide) (by decide) (XS.iconst X192.here hx rfl (hb hby at_177) (XS.goto X192.here hx rfl (pc0 := 178) (pc' := 182) rfl (hb hby at_178) (by decide) (by decide) (XS.istore X192.here hx rfl (hb hby at_182) rfl (l' := #[.val (.int p0), .val (.int p1), .val (.int p2), .val (.int p3), .val (.int p4), .val (.int p5), .val (.int i101), .val (.int i102), .val (.int i103), .val (.int i104), .val (.int i105), .val (.int i107), .val (.int i105), .val (.ref r185), .val (.ref r187), .val (.ref b188), .val (.int (1 : Int32))]) rfl k)))) ?_
                refine own_st (S' := T192.setTop (mkF m 188 #[.val (.int p0), .val (.int p1), .val (.int p2), .val (.int p3), .val (.int p4), .val (.int p5), .val (.int i101), .val (.int i102), .val (.int i103), .val (.int i104), .val (.int i105), .val (.int i107), .val (.int i105), .val (.ref r185), .val (.ref r187), .val (.ref b188), .val (.int (1 : Int32))] [(.ref r187), (.ref b188)])) (fun _ k => XS.aload X192.here hx rfl (hb hby at_184) rfl rfl (XS.aload X192.here hx rfl (hb hby at_186) rfl rfl k)) ?_
                have hke : r191 = k5 := o191.elim (fun q => q.2) fun q => absurd hc193 q.1
                have Fk5 : Fld Z h192 b188 "com/example/librow/librow/QueryLexer$Token" "kind" "Lcom/example/librow/librow/QueryLexer$Kind;" (.ref k5) := hke ▸ Fk192
                have XE213 : Ext h185 h192 := (own_xk XE189 K192 (allS (Nat.le_trans E187.1 (Nat.le_of_eq g188.symm)) all0))
                have G214 : own_Str Z h192 r185 (own_txt i102 i104 i105) := (Y185.ext XE213)
                have XE215 : Ext h187 h192 := (own_xk E188 K192 (allS (Nat.le_of_eq g188.symm) all0))
                have G216 : own_Str Z h192 r187 (own_txt i103 i107 i105) := (Y187.ext XE215)
                have XO217 : Old Z n0 h192 := (XO190.keep K192 (allS (Nat.le_trans Z0 (Nat.le_trans (Nat.le_trans E185.1 E187.1) (Nat.le_of_eq g188.symm))) all0))
                have A219 : Exa Z h192 b188 "com/example/librow/librow/QueryLexer$Token" := (A188.keep K192)
                obtain ⟨cq218, kq218, q218a, q218b, q218c⟩ := isOf hz187 e192 A219
                obtain ⟨_, _, ⟨T218, L218, k218, n218⟩, -, X218, ⟨Lc218, hQ218, l218, y218, z218⟩, st218⟩ := X192.virtualBack hx (y := (⟨"com/example/librow/librow/QueryLexer$Token", "isSymbol", "(Ljava/lang/String;)Z"⟩ : MethodName)) (z := (⟨"com/example/librow/librow/QueryLexer$Token", "isSymbol", "(Ljava/lang/String;)Z"⟩ : MethodName)) ho187 (mvT hz187 (hw _ own_w64)) (mvT hz187 (hw _ own_w65)) (notFace_of_selects (args := #[]) (mvT hz187 (hw _ own_w67))) (mvT hz187 (hw _ own_w67)) (mvT hz187 (hw _ own_w66)) (by decide) (backOf (W := 0) (own_rm_isy l Z a0 hw G1 S1 P1 hCH hCW k0 k1 k2 k3 k4 k5 k6 B [] b188 r187 r185 (own_txt i102 i104 i105) (own_txt i103 i107 i105) h192 n0 (Nat.le_trans Z0 (Nat.le_trans (Nat.le_trans (Nat.le_trans E185.1 E187.1) E188.1) K192.1)) XO217 Fk5 Ft192 G214 G216) hz187 (hw _ own_w68) (hw _ own_w40) (by decide) (by decide)) q218a q218c (g := (mkF m 188 #[.val (.int p0), .val (.int p1), .val (.int p2), .val (.int p3), .val (.int p4), .val (.int p5), .val (.int i101), .val (.int i102), .val (.int i103), .val (.int i104), .val (.int i105), .val (.int i107), .val (.int i105), .val (.ref r185), .val (.ref r187), .val (.ref b188), .val (.int (1 : Int32))] [(.ref r187), (.ref b188)])) rfl (by rw [hml]; rfl) (Steps.refl _) (argsL := [(.ref r187)]) (rest := []) (lenOf own_pd7 rfl) rfl (by show 2 * 0 + _ ≤ _; exact Nat.le_of_eq rfl) (hb hby at_188) (fun _ _ => ⟨rfl, e192, (by decide : 9 + 0 ≤ _), (by decide : 20 + 0 ≤ _)⟩)
                dsimp only [Pt.U, Pt.locs, Pt.cells, Pt.slots] at X218 l218 y218 z218 st218 hQ218
                subst l218 y218 z218
                obtain ⟨o218, M218, e218⟩ := hQ218
                have N218 := Fr.app N192 M218
                obtain ⟨rfl, -⟩ := own_pickY o218 ((own_txt_eq (own_rem3 gi102) (own_rem3 gi103)).mpr ⟨hc194, Or.inr hc211, Or.inl hc212⟩)
                refine own_tr (S' := T218.setTop (mkF m 191 #[.val (.int p0), .val (.int p1), .val (.int p2), .val (.int p3), .val (.int p4), .val (.int p5), .val (.int i101), .val (.int i102), .val (.int i103), .val (.int i104), .val (.int i105), .val (.int i107), .val (.int i105), .val (.ref r185), .val (.ref r187), .val (.ref b188), .val (.int (1 : Int32))] [(.int (1 : Int32))])) st218 ?_
                refine own_st (S' := T218.setTop (mkF m 201 #[.val (.int p0), .val (.int p1), .val (.int p2), .val (.int p3), .val (.int p4), .val (.int p5), .val (.int i101), .val (.int i102), .val (.int i103), .val (.int i104), .val (.int i105), .val (.int i107), .val (.int i105), .val (.ref r185), .val (.ref r187), .val (.ref b188), .val (.int (1 : Int32))] [(.int (1 : Int32))])) (fun _ k => XS.iload X218.here hx rfl (hb hby at_191) rfl (XS.icmpNo X218.here hx rfl (hb hby at_193) rfl (by decide) (XS.iconst X218.here hx rfl (hb hby at_196) (XS.goto X218.here hx rfl (pc0 := 197) (pc' := 201) rfl (hb hby at_197) (by decide) (by decide) k)))) ?_
                refine own_retW X218 hx ss187 (by rw [e218]; exact Nat.le_trans (Nat.le_refl _) (Nat.le_trans E188.1 K192.1)) Bd.returns hlk rfl (Or.inl ⟨rfl, (by simp), _, rfl⟩) (hb hby at_201) (by decide) (by decide) ?_
                rw [e218]
                exact ⟨rfl, N218⟩
              · refine own_st (S' := T192.setTop (mkF m 177 #[.val (.int p0), .val (.int p1), .val (.int p2), .val (.int p3), .val (.int p4), .val (.int p5), .val (.int i101), .val (.int i102), .val (.int i103), .val (.int i104), .val (.int i105), .val (.int i107), .val (.int i105), .val (.ref r185), .val (.ref r187), .val (.ref b188), .unset] [])) (fun _ k => XS.icmpNo X192.here hx rfl (hb hby at_167) rfl (flt hc212).1 (XS.iload X192.here hx rfl (hb hby at_170) rfl (XS.iload X192.here hx rfl (hb hby at_172) rfl (XS.icmpNo X192.here hx rfl (hb hby at_174) rfl (teq rfl).2 k)))) ?_
                refine own_st (S' := T192.setTop (mkF m 186 #[.val (.int p0), .val (.int p1), .val (.int p2), .val (.int p3), .val (.int p4), .val (.int p5), .val (.int i101), .val (.int i102), .val (.int i103), .val (.int i104), .val (.int i105), .val (.int i107), .val (.int i105), .val (.ref r185), .val (.ref r187), .val (.ref b188), .val (.int (1 : Int32))] [(.ref b188)])) (fun _ k => XS.iconst X192.here hx rfl (hb hby at_177) (XS.goto X192.here hx rfl (pc0 := 178) (pc' := 182) rfl (hb hby at_178) (by decide) (by decide) (XS.istore X192.here hx rfl (hb hby at_182) rfl (l' := #[.val (.int p0), .val (.int p1), .val (.int p2), .val (.int p3), .val (.int p4), .val (.int p5), .val (.int i101), .val (.int i102), .val (.int i103), .val (.int i104), .val (.int i105), .val (.int i107), .val (.int i105), .val (.ref r185), .val (.ref r187), .val (.ref b188), .val (.int (1 : Int32))]) rfl (XS.aload X192.here hx rfl (hb hby at_184) rfl rfl k)))) ?_
                refine own_st (S' := T192.setTop (mkF m 188 #[.val (.int p0), .val (.int p1), .val (.int p2), .val (.int p3), .val (.int p4), .val (.int p5), .val (.int i101), .val (.int i102), .val (.int i103), .val (.int i104), .val (.int i105), .val (.int i107), .val (.int i105), .val (.ref r185), .val (.ref r187), .val (.ref b188), .val (.int (1 : Int32))] [(.ref r187), (.ref b188)])) (fun _ k => XS.aload X192.here hx rfl (hb hby at_186) rfl rfl k) ?_
                have hke : r191 = k5 := o191.elim (fun q => q.2) fun q => absurd hc193 q.1
                have Fk5 : Fld Z h192 b188 "com/example/librow/librow/QueryLexer$Token" "kind" "Lcom/example/librow/librow/QueryLexer$Kind;" (.ref k5) := hke ▸ Fk192
                have XE220 : Ext h185 h192 := (own_xk XE189 K192 (allS (Nat.le_trans E187.1 (Nat.le_of_eq g188.symm)) all0))
                have G221 : own_Str Z h192 r185 (own_txt i102 i104 i105) := (Y185.ext XE220)
                have XE222 : Ext h187 h192 := (own_xk E188 K192 (allS (Nat.le_of_eq g188.symm) all0))
                have G223 : own_Str Z h192 r187 (own_txt i103 i107 i105) := (Y187.ext XE222)
                have XO224 : Old Z n0 h192 := (XO190.keep K192 (allS (Nat.le_trans Z0 (Nat.le_trans (Nat.le_trans E185.1 E187.1) (Nat.le_of_eq g188.symm))) all0))
                have A226 : Exa Z h192 b188 "com/example/librow/librow/QueryLexer$Token" := (A188.keep K192)
                obtain ⟨cq225, kq225, q225a, q225b, q225c⟩ := isOf hz187 e192 A226
                obtain ⟨_, _, ⟨T225, L225, k225, n225⟩, -, X225, ⟨Lc225, hQ225, l225, y225, z225⟩, st225⟩ := X192.virtualBack hx (y := (⟨"com/example/librow/librow/QueryLexer$Token", "isSymbol", "(Ljava/lang/String;)Z"⟩ : MethodName)) (z := (⟨"com/example/librow/librow/QueryLexer$Token", "isSymbol", "(Ljava/lang/String;)Z"⟩ : MethodName)) ho187 (mvT hz187 (hw _ own_w64)) (mvT hz187 (hw _ own_w65)) (notFace_of_selects (args := #[]) (mvT hz187 (hw _ own_w67))) (mvT hz187 (hw _ own_w67)) (mvT hz187 (hw _ own_w66)) (by decide) (backOf (W := 0) (own_rm_isy l Z a0 hw G1 S1 P1 hCH hCW k0 k1 k2 k3 k4 k5 k6 B [] b188 r187 r185 (own_txt i102 i104 i105) (own_txt i103 i107 i105) h192 n0 (Nat.le_trans Z0 (Nat.le_trans (Nat.le_trans (Nat.le_trans E185.1 E187.1) E188.1) K192.1)) XO224 Fk5 Ft192 G221 G223) hz187 (hw _ own_w68) (hw _ own_w40) (by decide) (by decide)) q225a q225c (g := (mkF m 188 #[.val (.int p0), .val (.int p1), .val (.int p2), .val (.int p3), .val (.int p4), .val (.int p5), .val (.int i101), .val (.int i102), .val (.int i103), .val (.int i104), .val (.int i105), .val (.int i107), .val (.int i105), .val (.ref r185), .val (.ref r187), .val (.ref b188), .val (.int (1 : Int32))] [(.ref r187), (.ref b188)])) rfl (by rw [hml]; rfl) (Steps.refl _) (argsL := [(.ref r187)]) (rest := []) (lenOf own_pd7 rfl) rfl (by show 2 * 0 + _ ≤ _; exact Nat.le_of_eq rfl) (hb hby at_188) (fun _ _ => ⟨rfl, e192, (by decide : 9 + 0 ≤ _), (by decide : 20 + 0 ≤ _)⟩)
                dsimp only [Pt.U, Pt.locs, Pt.cells, Pt.slots] at X225 l225 y225 z225 st225 hQ225
                subst l225 y225 z225
                obtain ⟨o225, M225, e225⟩ := hQ225
                have N225 := Fr.app N192 M225
                obtain ⟨rfl, -⟩ := own_pickY o225 ((own_txt_eq (own_rem3 gi102) (own_rem3 gi103)).mpr ⟨hc194, Or.inr hc211, Or.inr rfl⟩)
                refine own_tr (S' := T225.setTop (mkF m 191 #[.val (.int p0), .val (.int p1), .val (.int p2), .val (.int p3), .val (.int p4), .val (.int p5), .val (.int i101), .val (.int i102), .val (.int i103), .val (.int i104), .val (.int i105), .val (.int i107), .val (.int i105), .val (.ref r185), .val (.ref r187), .val (.ref b188), .val (.int (1 : Int32))] [(.int (1 : Int32))])) st225 ?_
                refine own_st (S' := T225.setTop (mkF m 201 #[.val (.int p0), .val (.int p1), .val (.int p2), .val (.int p3), .val (.int p4), .val (.int p5), .val (.int i101), .val (.int i102), .val (.int i103), .val (.int i104), .val (.int i105), .val (.int i107), .val (.int i105), .val (.ref r185), .val (.ref r187), .val (.ref b188), .val (.int (1 : Int32))] [(.int (1 : Int32))])) (fun _ k => XS.iload X225.here hx rfl (hb hby at_191) rfl (XS.icmpNo X225.here hx rfl (hb hby at_193) rfl (by decide) (XS.iconst X225.here hx rfl (hb hby at_196) (XS.goto X225.here hx rfl (pc0 := 197) (pc' := 201) rfl (hb hby at_197) (by decide) (by decide) k)))) ?_
                refine own_retW X225 hx ss187 (by rw [e225]; exact Nat.le_trans (Nat.le_refl _) (Nat.le_trans E188.1 K192.1)) Bd.returns hlk rfl (Or.inl ⟨rfl, (by simp), _, rfl⟩) (hb hby at_201) (by decide) (by decide) ?_
                rw [e225]
                exact ⟨rfl, N225⟩
            · refine own_st (S' := T192.setTop (mkF m 186 #[.val (.int p0), .val (.int p1), .val (.int p2), .val (.int p3), .val (.int p4), .val (.int p5), .val (.int i101), .val (.int i102), .val (.int i103), .val (.int i104), .val (.int i105), .val (.int i107), .val (.int i105), .val (.ref r185), .val (.ref r187), .val (.ref b188), .val (.int (0 : Int32))] [(.ref b188)])) (fun _ k => XS.icmpYes X192.here hx rfl (pc0 := 161) (pc' := 181) rfl (hb hby at_161) rfl (feq hc211).2 (by decide) (by decide) (XS.iconst X192.here hx rfl (hb hby at_181) (XS.istore X192.here hx rfl (hb hby at_182) rfl (l' := #[.val (.int p0), .val (.int p1), .val (.int p2), .val (.int p3), .val (.int p4), .val (.int p5), .val (.int i101), .val (.int i102), .val (.int i103), .val (.int i104), .val (.int i105), .val (.int i107), .val (.int i105), .val (.ref r185), .val (.ref r187), .val (.ref b188), .val (.int (0 : Int32))]) rfl (XS.aload X192.here hx rfl (hb hby at_184) rfl rfl k)))) ?_
              refine own_st (S' := T192.setTop (mkF m 188 #[.val (.int p0), .val (.int p1), .val (.int p2), .val (.int p3), .val (.int p4), .val (.int p5), .val (.int i101), .val (.int i102), .val (.int i103), .val (.int i104), .val (.int i105), .val (.int i107), .val (.int i105), .val (.ref r185), .val (.ref r187), .val (.ref b188), .val (.int (0 : Int32))] [(.ref r187), (.ref b188)])) (fun _ k => XS.aload X192.here hx rfl (hb hby at_186) rfl rfl k) ?_
              have hke : r191 = k5 := o191.elim (fun q => q.2) fun q => absurd hc193 q.1
              have Fk5 : Fld Z h192 b188 "com/example/librow/librow/QueryLexer$Token" "kind" "Lcom/example/librow/librow/QueryLexer$Kind;" (.ref k5) := hke ▸ Fk192
              have XE227 : Ext h185 h192 := (own_xk XE189 K192 (allS (Nat.le_trans E187.1 (Nat.le_of_eq g188.symm)) all0))
              have G228 : own_Str Z h192 r185 (own_txt i102 i104 i105) := (Y185.ext XE227)
              have XE229 : Ext h187 h192 := (own_xk E188 K192 (allS (Nat.le_of_eq g188.symm) all0))
              have G230 : own_Str Z h192 r187 (own_txt i103 i107 i105) := (Y187.ext XE229)
              have XO231 : Old Z n0 h192 := (XO190.keep K192 (allS (Nat.le_trans Z0 (Nat.le_trans (Nat.le_trans E185.1 E187.1) (Nat.le_of_eq g188.symm))) all0))
              have A233 : Exa Z h192 b188 "com/example/librow/librow/QueryLexer$Token" := (A188.keep K192)
              obtain ⟨cq232, kq232, q232a, q232b, q232c⟩ := isOf hz187 e192 A233
              obtain ⟨_, _, ⟨T232, L232, k232, n232⟩, -, X232, ⟨Lc232, hQ232, l232, y232, z232⟩, st232⟩ := X192.virtualBack hx (y := (⟨"com/example/librow/librow/QueryLexer$Token", "isSymbol", "(Ljava/lang/String;)Z"⟩ : MethodName)) (z := (⟨"com/example/librow/librow/QueryLexer$Token", "isSymbol", "(Ljava/lang/String;)Z"⟩ : MethodName)) ho187 (mvT hz187 (hw _ own_w64)) (mvT hz187 (hw _ own_w65)) (notFace_of_selects (args := #[]) (mvT hz187 (hw _ own_w67))) (mvT hz187 (hw _ own_w67)) (mvT hz187 (hw _ own_w66)) (by decide) (backOf (W := 0) (own_rm_isy l Z a0 hw G1 S1 P1 hCH hCW k0 k1 k2 k3 k4 k5 k6 B [] b188 r187 r185 (own_txt i102 i104 i105) (own_txt i103 i107 i105) h192 n0 (Nat.le_trans Z0 (Nat.le_trans (Nat.le_trans (Nat.le_trans E185.1 E187.1) E188.1) K192.1)) XO231 Fk5 Ft192 G228 G230) hz187 (hw _ own_w68) (hw _ own_w40) (by decide) (by decide)) q232a q232c (g := (mkF m 188 #[.val (.int p0), .val (.int p1), .val (.int p2), .val (.int p3), .val (.int p4), .val (.int p5), .val (.int i101), .val (.int i102), .val (.int i103), .val (.int i104), .val (.int i105), .val (.int i107), .val (.int i105), .val (.ref r185), .val (.ref r187), .val (.ref b188), .val (.int (0 : Int32))] [(.ref r187), (.ref b188)])) rfl (by rw [hml]; rfl) (Steps.refl _) (argsL := [(.ref r187)]) (rest := []) (lenOf own_pd7 rfl) rfl (by show 2 * 0 + _ ≤ _; exact Nat.le_of_eq rfl) (hb hby at_188) (fun _ _ => ⟨rfl, e192, (by decide : 9 + 0 ≤ _), (by decide : 20 + 0 ≤ _)⟩)
              dsimp only [Pt.U, Pt.locs, Pt.cells, Pt.slots] at X232 l232 y232 z232 st232 hQ232
              subst l232 y232 z232
              obtain ⟨o232, M232, e232⟩ := hQ232
              have N232 := Fr.app N192 M232
              obtain ⟨rfl, -⟩ := own_pickN o232 (fun q => ((own_txt_eq (own_rem3 gi102) (own_rem3 gi103)).mp q).2.1.elim hc195 hc211)
              refine own_tr (S' := T232.setTop (mkF m 191 #[.val (.int p0), .val (.int p1), .val (.int p2), .val (.int p3), .val (.int p4), .val (.int p5), .val (.int i101), .val (.int i102), .val (.int i103), .val (.int i104), .val (.int i105), .val (.int i107), .val (.int i105), .val (.ref r185), .val (.ref r187), .val (.ref b188), .val (.int (0 : Int32))] [(.int (0 : Int32))])) st232 ?_
              refine own_st (S' := T232.setTop (mkF m 201 #[.val (.int p0), .val (.int p1), .val (.int p2), .val (.int p3), .val (.int p4), .val (.int p5), .val (.int i101), .val (.int i102), .val (.int i103), .val (.int i104), .val (.int i105), .val (.int i107), .val (.int i105), .val (.ref r185), .val (.ref r187), .val (.ref b188), .val (.int (0 : Int32))] [(.int (1 : Int32))])) (fun _ k => XS.iload X232.here hx rfl (hb hby at_191) rfl (XS.icmpNo X232.here hx rfl (hb hby at_193) rfl (by decide) (XS.iconst X232.here hx rfl (hb hby at_196) (XS.goto X232.here hx rfl (pc0 := 197) (pc' := 201) rfl (hb hby at_197) (by decide) (by decide) k)))) ?_
              refine own_retW X232 hx ss187 (by rw [e232]; exact Nat.le_trans (Nat.le_refl _) (Nat.le_trans E188.1 K192.1)) Bd.returns hlk rfl (Or.inl ⟨rfl, (by simp), _, rfl⟩) (hb hby at_201) (by decide) (by decide) ?_
              rw [e232]
              exact ⟨rfl, N232⟩
        · refine own_st (S' := T192.setTop (mkF m 186 #[.val (.int p0), .val (.int p1), .val (.int p2), .val (.int p3), .val (.int p4), .val (.int p5), .val (.int i101), .val (.int i102), .val (.int i103), .val (.int i104), .val (.int i105), .val (.int i107), .val (.int i105), .val (.ref r185), .val (.ref r187), .val (.ref b188), .val (.int (0 : Int32))] [(.ref b188)])) (fun _ k => XS.icmpYes X192.here hx rfl (pc0 := 148) (pc' := 181) rfl (hb hby at_148) rfl (feq hc194).2 (by decide) (by decide) (XS.iconst X192.here hx rfl (hb hby at_181) (XS.istore X192.here hx rfl (hb hby at_182) rfl (l' := #[.val (.int p0), .val (.int p1), .val (.int p2), .val (.int p3), .val (.int p4), .val (.int p5), .val (.int i101), .val (.int i102), .val (.int i103), .val (.int i104), .val (.int i105), .val (.int i107), .val (.int i105), .val (.ref r185), .val (.ref r187), .val (.ref b188), .val (.int (0 : Int32))]) rfl (XS.aload X192.here hx rfl (hb hby at_184) rfl rfl k)))) ?_
          refine own_st (S' := T192.setTop (mkF m 188 #[.val (.int p0), .val (.int p1), .val (.int p2), .val (.int p3), .val (.int p4), .val (.int p5), .val (.int i101), .val (.int i102), .val (.int i103), .val (.int i104), .val (.int i105), .val (.int i107), .val (.int i105), .val (.ref r185), .val (.ref r187), .val (.ref b188), .val (.int (0 : Int32))] [(.ref r187), (.ref b188)])) (fun _ k => XS.aload X192.here hx rfl (hb hby at_186) rfl rfl k) ?_
          have hke : r191 = k5 := o191.elim (fun q => q.2) fun q => absurd hc193 q.1
          have Fk5 : Fld Z h192 b188 "com/example/librow/librow/QueryLexer$Token" "kind" "Lcom/example/librow/librow/QueryLexer$Kind;" (.ref k5) := hke ▸ Fk192
          have XE234 : Ext h185 h192 := (own_xk XE189 K192 (allS (Nat.le_trans E187.1 (Nat.le_of_eq g188.symm)) all0))
          have G235 : own_Str Z h192 r185 (own_txt i102 i104 i105) := (Y185.ext XE234)
          have XE236 : Ext h187 h192 := (own_xk E188 K192 (allS (Nat.le_of_eq g188.symm) all0))
          have G237 : own_Str Z h192 r187 (own_txt i103 i107 i105) := (Y187.ext XE236)
          have XO238 : Old Z n0 h192 := (XO190.keep K192 (allS (Nat.le_trans Z0 (Nat.le_trans (Nat.le_trans E185.1 E187.1) (Nat.le_of_eq g188.symm))) all0))
          have A240 : Exa Z h192 b188 "com/example/librow/librow/QueryLexer$Token" := (A188.keep K192)
          obtain ⟨cq239, kq239, q239a, q239b, q239c⟩ := isOf hz187 e192 A240
          obtain ⟨_, _, ⟨T239, L239, k239, n239⟩, -, X239, ⟨Lc239, hQ239, l239, y239, z239⟩, st239⟩ := X192.virtualBack hx (y := (⟨"com/example/librow/librow/QueryLexer$Token", "isSymbol", "(Ljava/lang/String;)Z"⟩ : MethodName)) (z := (⟨"com/example/librow/librow/QueryLexer$Token", "isSymbol", "(Ljava/lang/String;)Z"⟩ : MethodName)) ho187 (mvT hz187 (hw _ own_w64)) (mvT hz187 (hw _ own_w65)) (notFace_of_selects (args := #[]) (mvT hz187 (hw _ own_w67))) (mvT hz187 (hw _ own_w67)) (mvT hz187 (hw _ own_w66)) (by decide) (backOf (W := 0) (own_rm_isy l Z a0 hw G1 S1 P1 hCH hCW k0 k1 k2 k3 k4 k5 k6 B [] b188 r187 r185 (own_txt i102 i104 i105) (own_txt i103 i107 i105) h192 n0 (Nat.le_trans Z0 (Nat.le_trans (Nat.le_trans (Nat.le_trans E185.1 E187.1) E188.1) K192.1)) XO238 Fk5 Ft192 G235 G237) hz187 (hw _ own_w68) (hw _ own_w40) (by decide) (by decide)) q239a q239c (g := (mkF m 188 #[.val (.int p0), .val (.int p1), .val (.int p2), .val (.int p3), .val (.int p4), .val (.int p5), .val (.int i101), .val (.int i102), .val (.int i103), .val (.int i104), .val (.int i105), .val (.int i107), .val (.int i105), .val (.ref r185), .val (.ref r187), .val (.ref b188), .val (.int (0 : Int32))] [(.ref r187), (.ref b188)])) rfl (by rw [hml]; rfl) (Steps.refl _) (argsL := [(.ref r187)]) (rest := []) (lenOf own_pd7 rfl) rfl (by show 2 * 0 + _ ≤ _; exact Nat.le_of_eq rfl) (hb hby at_188) (fun _ _ => ⟨rfl, e192, (by decide : 9 + 0 ≤ _), (by decide : 20 + 0 ≤ _)⟩)
          dsimp only [Pt.U, Pt.locs, Pt.cells, Pt.slots] at X239 l239 y239 z239 st239 hQ239
          subst l239 y239 z239
          obtain ⟨o239, M239, e239⟩ := hQ239
          have N239 := Fr.app N192 M239
          obtain ⟨rfl, -⟩ := own_pickN o239 (fun q => hc194 ((own_txt_eq (own_rem3 gi102) (own_rem3 gi103)).mp q).1)
          refine own_tr (S' := T239.setTop (mkF m 191 #[.val (.int p0), .val (.int p1), .val (.int p2), .val (.int p3), .val (.int p4), .val (.int p5), .val (.int i101), .val (.int i102), .val (.int i103), .val (.int i104), .val (.int i105), .val (.int i107), .val (.int i105), .val (.ref r185), .val (.ref r187), .val (.ref b188), .val (.int (0 : Int32))] [(.int (0 : Int32))])) st239 ?_
          refine own_st (S' := T239.setTop (mkF m 201 #[.val (.int p0), .val (.int p1), .val (.int p2), .val (.int p3), .val (.int p4), .val (.int p5), .val (.int i101), .val (.int i102), .val (.int i103), .val (.int i104), .val (.int i105), .val (.int i107), .val (.int i105), .val (.ref r185), .val (.ref r187), .val (.ref b188), .val (.int (0 : Int32))] [(.int (1 : Int32))])) (fun _ k => XS.iload X239.here hx rfl (hb hby at_191) rfl (XS.icmpNo X239.here hx rfl (hb hby at_193) rfl (by decide) (XS.iconst X239.here hx rfl (hb hby at_196) (XS.goto X239.here hx rfl (pc0 := 197) (pc' := 201) rfl (hb hby at_197) (by decide) (by decide) k)))) ?_
          refine own_retW X239 hx ss187 (by rw [e239]; exact Nat.le_trans (Nat.le_refl _) (Nat.le_trans E188.1 K192.1)) Bd.returns hlk rfl (Or.inl ⟨rfl, (by simp), _, rfl⟩) (hb hby at_201) (by decide) (by decide) ?_
          rw [e239]
          exact ⟨rfl, N239⟩
      · refine own_st (S' := T192.setTop (mkF m 186 #[.val (.int p0), .val (.int p1), .val (.int p2), .val (.int p3), .val (.int p4), .val (.int p5), .val (.int i101), .val (.int i102), .val (.int i103), .val (.int i104), .val (.int i105), .val (.int i107), .val (.int i105), .val (.ref r185), .val (.ref r187), .val (.ref b188), .val (.int (0 : Int32))] [(.ref b188)])) (fun _ k => XS.icmpYes X192.here hx rfl (pc0 := 141) (pc' := 181) rfl (hb hby at_141) rfl (feq hc193).2 (by decide) (by decide) (XS.iconst X192.here hx rfl (hb hby at_181) (XS.istore X192.here hx rfl (hb hby at_182) rfl (l' := #[.val (.int p0), .val (.int p1), .val (.int p2), .val (.int p3), .val (.int p4), .val (.int p5), .val (.int i101), .val (.int i102), .val (.int i103), .val (.int i104), .val (.int i105), .val (.int i107), .val (.int i105), .val (.ref r185), .val (.ref r187), .val (.ref b188), .val (.int (0 : Int32))]) rfl (XS.aload X192.here hx rfl (hb hby at_184) rfl rfl k)))) ?_
        refine own_st (S' := T192.setTop (mkF m 188 #[.val (.int p0), .val (.int p1), .val (.int p2), .val (.int p3), .val (.int p4), .val (.int p5), .val (.int i101), .val (.int i102), .val (.int i103), .val (.int i104), .val (.int i105), .val (.int i107), .val (.int i105), .val (.ref r185), .val (.ref r187), .val (.ref b188), .val (.int (0 : Int32))] [(.ref r187), (.ref b188)])) (fun _ k => XS.aload X192.here hx rfl (hb hby at_186) rfl rfl k) ?_
        have hne : r191 ≠ k5 := o191.elim (fun q => absurd q.1 hc193) fun q => q.2
        have XO241 : Old Z n0 h192 := (XO190.keep K192 (allS (Nat.le_trans Z0 (Nat.le_trans (Nat.le_trans E185.1 E187.1) (Nat.le_of_eq g188.symm))) all0))
        have A243 : Exa Z h192 b188 "com/example/librow/librow/QueryLexer$Token" := (A188.keep K192)
        obtain ⟨cq242, kq242, q242a, q242b, q242c⟩ := isOf hz187 e192 A243
        obtain ⟨_, _, ⟨T242, L242, k242, n242⟩, -, X242, ⟨Lc242, hQ242, l242, y242, z242⟩, st242⟩ := X192.virtualBack hx (y := (⟨"com/example/librow/librow/QueryLexer$Token", "isSymbol", "(Ljava/lang/String;)Z"⟩ : MethodName)) (z := (⟨"com/example/librow/librow/QueryLexer$Token", "isSymbol", "(Ljava/lang/String;)Z"⟩ : MethodName)) ho187 (mvT hz187 (hw _ own_w64)) (mvT hz187 (hw _ own_w65)) (notFace_of_selects (args := #[]) (mvT hz187 (hw _ own_w67))) (mvT hz187 (hw _ own_w67)) (mvT hz187 (hw _ own_w66)) (by decide) (backOf (W := 0) (own_rm_isn l Z a0 hw G1 S1 P1 hCH hCW k0 k1 k2 k3 k4 k5 k6 B [] b188 r187 r191 h192 n0 (Nat.le_trans Z0 (Nat.le_trans (Nat.le_trans (Nat.le_trans E185.1 E187.1) E188.1) K192.1)) XO241 Fk192 hne) hz187 (hw _ own_w68) (hw _ own_w40) (by decide) (by decide)) q242a q242c (g := (mkF m 188 #[.val (.int p0), .val (.int p1), .val (.int p2), .val (.int p3), .val (.int p4), .val (.int p5), .val (.int i101), .val (.int i102), .val (.int i103), .val (.int i104), .val (.int i105), .val (.int i107), .val (.int i105), .val (.ref r185), .val (.ref r187), .val (.ref b188), .val (.int (0 : Int32))] [(.ref r187), (.ref b188)])) rfl (by rw [hml]; rfl) (Steps.refl _) (argsL := [(.ref r187)]) (rest := []) (lenOf own_pd7 rfl) rfl (by show 2 * 0 + _ ≤ _; exact Nat.le_of_eq rfl) (hb hby at_188) (fun _ _ => ⟨rfl, e192, (by decide : 9 + 0 ≤ _), (by decide : 20 + 0 ≤ _)⟩)
        dsimp only [Pt.U, Pt.locs, Pt.cells, Pt.slots] at X242 l242 y242 z242 st242 hQ242
        subst l242 y242 z242
        obtain ⟨rfl, M242, e242⟩ := hQ242
        have N242 := Fr.app N192 M242
        refine own_tr (S' := T242.setTop (mkF m 191 #[.val (.int p0), .val (.int p1), .val (.int p2), .val (.int p3), .val (.int p4), .val (.int p5), .val (.int i101), .val (.int i102), .val (.int i103), .val (.int i104), .val (.int i105), .val (.int i107), .val (.int i105), .val (.ref r185), .val (.ref r187), .val (.ref b188), .val (.int (0 : Int32))] [(.int (0 : Int32))])) st242 ?_
        refine own_st (S' := T242.setTop (mkF m 201 #[.val (.int p0), .val (.int p1), .val (.int p2), .val (.int p3), .val (.int p4), .val (.int p5), .val (.int i101), .val (.int i102), .val (.int i103), .val (.int i104), .val (.int i105), .val (.int i107), .val (.int i105), .val (.ref r185), .val (.ref r187), .val (.ref b188), .val (.int (0 : Int32))] [(.int (1 : Int32))])) (fun _ k => XS.iload X242.here hx rfl (hb hby at_191) rfl (XS.icmpNo X242.here hx rfl (hb hby at_193) rfl (by decide) (XS.iconst X242.here hx rfl (hb hby at_196) (XS.goto X242.here hx rfl (pc0 := 197) (pc' := 201) rfl (hb hby at_197) (by decide) (by decide) k)))) ?_
        refine own_retW X242 hx ss187 (by rw [e242]; exact Nat.le_trans (Nat.le_refl _) (Nat.le_trans E188.1 K192.1)) Bd.returns hlk rfl (Or.inl ⟨rfl, (by simp), _, rfl⟩) (hb hby at_201) (by decide) (by decide) ?_
        rw [e242]
        exact ⟨rfl, N242⟩
  · refine own_st (S' := s₁.setTop (mkF m 71 #[.val (.int p0), .val (.int p1), .val (.int p2), .val (.int p3), .val (.int p4), .val (.int p5), .val (.int i101), .val (.int i102), .val (.int i103), .val (.int i104), .val (.int i105), .val (.int i104), .unset, .unset, .unset, .unset, .unset] [])) (fun _ k => XS.ifNo X0.here hx rfl (hb hby at_55) rfl ((if0 _ _).trans (feq hc106).1) (XS.iload X0.here hx rfl (hb hby at_58) rfl (XS.goto X0.here hx rfl (pc0 := 60) (pc' := 69) rfl (hb hby at_60) (by decide) (by decide) (XS.istore X0.here hx rfl (hb hby at_69) rfl (l' := #[.val (.int p0), .val (.int p1), .val (.int p2), .val (.int p3), .val (.int p4), .val (.int p5), .val (.int i101), .val (.int i102), .val (.int i103), .val (.int i104), .val (.int i105), .val (.int i104), .unset, .unset, .unset, .unset, .unset]) rfl k)))) ?_
    refine own_st (S' := s₁.setTop (mkF m 76 #[.val (.int p0), .val (.int p1), .val (.int p2), .val (.int p3), .val (.int p4), .val (.int p5), .val (.int i101), .val (.int i102), .val (.int i103), .val (.int i104), .val (.int i105), .val (.int i104), .unset, .unset, .unset, .unset, .unset] [(.int (1 : Int32)), (.int ((p2.toUInt32 >>> ((17 : Int32) &&& 31).toUInt32).toInt32))])) (fun _ k => XS.iloadN X0.here hx rfl (hb hby at_71) rfl (XS.bipush X0.here hx rfl (hb hby at_72) (XS.iushr X0.here hx rfl (hb hby at_74) rfl (XS.iconst X0.here hx rfl (hb hby at_75) k)))) ?_
    refine own_st (S' := s₁.setTop (mkF m 77 #[.val (.int p0), .val (.int p1), .val (.int p2), .val (.int p3), .val (.int p4), .val (.int p5), .val (.int i101), .val (.int i102), .val (.int i103), .val (.int i104), .val (.int i105), .val (.int i104), .unset, .unset, .unset, .unset, .unset] [(.int (((p2.toUInt32 >>> ((17 : Int32) &&& 31).toUInt32).toInt32) &&& (1 : Int32)))])) (fun _ k => XS.iand X0.here hx rfl (hb hby at_76) rfl k) ?_
    by_cases hc244 : (((p2.toUInt32 >>> ((17 : Int32) &&& 31).toUInt32).toInt32) &&& (1 : Int32)) = (0 : Int32)
    · refine own_st (S' := s₁.setTop (mkF m 89 #[.val (.int p0), .val (.int p1), .val (.int p2), .val (.int p3), .val (.int p4), .val (.int p5), .val (.int i101), .val (.int i102), .val (.int i103), .val (.int i104), .val (.int i105), .val (.int i104), .unset, .unset, .unset, .unset, .unset] [(.int ((p2.toUInt32 >>> ((8 : Int32) &&& 31).toUInt32).toInt32))])) (fun _ k => XS.ifYes X0.here hx rfl (pc0 := 77) (pc' := 85) rfl (hb hby at_77) rfl ((if0 _ _).trans (teq hc244).1) (by decide) (by decide) (XS.iloadN X0.here hx rfl (hb hby at_85) rfl (XS.bipush X0.here hx rfl (hb hby at_86) (XS.iushr X0.here hx rfl (hb hby at_88) rfl k)))) ?_
      refine own_st (S' := s₁.setTop (mkF m 96 #[.val (.int p0), .val (.int p1), .val (.int p2), .val (.int p3), .val (.int p4), .val (.int p5), .val (.int i101), .val (.int i102), .val (.int i103), .val (.int i104), .val (.int i105), .val (.int i104), .val (.int ((((p2.toUInt32 >>> ((8 : Int32) &&& 31).toUInt32).toInt32) &&& (255 : Int32)).toUInt32.toUInt16.toUInt32.toInt32)), .unset, .unset, .unset, .unset] [])) (fun _ k => XS.sipush X0.here hx rfl (hb hby at_89) (XS.iand X0.here hx rfl (hb hby at_92) rfl (XS.i2c X0.here hx rfl (hb hby at_93) rfl (XS.istore X0.here hx rfl (hb hby at_94) rfl (l' := #[.val (.int p0), .val (.int p1), .val (.int p2), .val (.int p3), .val (.int p4), .val (.int p5), .val (.int i101), .val (.int i102), .val (.int i103), .val (.int i104), .val (.int i105), .val (.int i104), .val (.int ((((p2.toUInt32 >>> ((8 : Int32) &&& 31).toUInt32).toInt32) &&& (255 : Int32)).toUInt32.toUInt16.toUInt32.toInt32)), .unset, .unset, .unset, .unset]) rfl k)))) ?_
      generalize gi245 : ((((p2.toUInt32 >>> ((8 : Int32) &&& 31).toUInt32).toInt32) &&& (255 : Int32)).toUInt32.toUInt16.toUInt32.toInt32) = i245
      refine own_st (S' := s₁.setTop (mkF m 102 #[.val (.int p0), .val (.int p1), .val (.int p2), .val (.int p3), .val (.int p4), .val (.int p5), .val (.int i101), .val (.int i102), .val (.int i103), .val (.int i104), .val (.int i105), .val (.int i104), .val (.int i245), .unset, .unset, .unset, .unset] [(.int i105), (.int i104), (.int i102)])) (fun _ k => XS.iload X0.here hx rfl (hb hby at_96) rfl (XS.iload X0.here hx rfl (hb hby at_98) rfl (XS.iload X0.here hx rfl (hb hby at_100) rfl k))) ?_
      obtain ⟨_, _, ⟨T246, L246, k246, n246⟩, -, X246, sn246, sg246, ⟨Lc246, hQ246, l246, y246, z246⟩, st246⟩ := callSS X0 hx (y := (⟨"com/example/librow/librow/TokenIsSymbolPinLaw", "str", "(ICC)Ljava/lang/String;"⟩ : MethodName)) hown (mvT hZ (hw _ own_w1)) (mvT hZ (hw _ own_w2)) (mvT hZ (hw _ own_w3)) (mvT hZ (hw _ own_w4)) (by decide) (own_backS (W := 0) (own_rm_str l Z a0 hw G1 S1 P1 hCH hCW k0 k1 k2 k3 k4 k5 k6 B [] i102 i104 i105 h0 n0 (Nat.le_trans Z0 (Nat.le_refl _)) XO (own_chr gi104) (own_chr gi105)) hZ (hw _ own_w4) (hw _ own_w3) (by decide) (by decide)) (g := (mkF m 102 #[.val (.int p0), .val (.int p1), .val (.int p2), .val (.int p3), .val (.int p4), .val (.int p5), .val (.int i101), .val (.int i102), .val (.int i103), .val (.int i104), .val (.int i105), .val (.int i104), .val (.int i245), .unset, .unset, .unset, .unset] [(.int i105), (.int i104), (.int i102)])) rfl (by rw [hml]; rfl) (argsL := [(.int i102), (.int i104), (.int i105)]) (rest := []) (lenOf own_pd4 rfl) rfl (by show 2 * 0 + _ ≤ _; exact Nat.le_of_eq rfl) (hb hby at_102) (fun _ hv => ⟨rfl, e0, (by decide : 0 + 4 ≤ _), (by decide : 0 + 8 ≤ _), hLS.warm hv⟩)
      dsimp only [Pt.U, Pt.locs, Pt.cells, Pt.slots] at X246 l246 y246 z246 st246 hQ246 sn246 sg246
      subst l246 y246 z246
      obtain ⟨XX246, ss246, hz246, ho246⟩ := rebS sn0 (n1 := s₁.heap.size) (by rw [e0]; exact Nat.le_trans (Nat.zero_le _) (Nat.le_refl _)) X246 sn246 sg246 hZ hown
      obtain ⟨r246, rfl, M246, E246, g246, Y246, LS246⟩ := hQ246
      have N246 := Fr.app N0 M246
      obtain ⟨h246, e246⟩ : ∃ z, T246.heap = z := ⟨_, rfl⟩
      rw [e246] at E246 LS246 ss246 Y246
      refine own_tr (S' := T246.setTop (mkF m 105 #[.val (.int p0), .val (.int p1), .val (.int p2), .val (.int p3), .val (.int p4), .val (.int p5), .val (.int i101), .val (.int i102), .val (.int i103), .val (.int i104), .val (.int i105), .val (.int i104), .val (.int i245), .unset, .unset, .unset, .unset] [(.ref r246)])) st246 ?_
      refine own_st (S' := T246.setTop (mkF m 113 #[.val (.int p0), .val (.int p1), .val (.int p2), .val (.int p3), .val (.int p4), .val (.int p5), .val (.int i101), .val (.int i102), .val (.int i103), .val (.int i104), .val (.int i105), .val (.int i104), .val (.int i245), .val (.ref r246), .unset, .unset, .unset] [(.int i245), (.int i104), (.int i103)])) (fun _ k => XS.astore XX246.here hx rfl (hb hby at_105) rfl rfl (l' := #[.val (.int p0), .val (.int p1), .val (.int p2), .val (.int p3), .val (.int p4), .val (.int p5), .val (.int i101), .val (.int i102), .val (.int i103), .val (.int i104), .val (.int i105), .val (.int i104), .val (.int i245), .val (.ref r246), .unset, .unset, .unset]) rfl (XS.iload XX246.here hx rfl (hb hby at_107) rfl (XS.iload XX246.here hx rfl (hb hby at_109) rfl (XS.iload XX246.here hx rfl (hb hby at_111) rfl k)))) ?_
      have XO247 : Old Z n0 h246 := (XO.ext E246)
      obtain ⟨_, _, ⟨T248, L248, k248, n248⟩, -, X248, sn248, sg248, ⟨Lc248, hQ248, l248, y248, z248⟩, st248⟩ := callSS XX246 hx (y := (⟨"com/example/librow/librow/TokenIsSymbolPinLaw", "str", "(ICC)Ljava/lang/String;"⟩ : MethodName)) ho246 (mvT hz246 (hw _ own_w1)) (mvT hz246 (hw _ own_w2)) (mvT hz246 (hw _ own_w3)) (mvT hz246 (hw _ own_w4)) (by decide) (own_backS (W := 0) (own_rm_str l Z a0 hw G1 S1 P1 hCH hCW k0 k1 k2 k3 k4 k5 k6 B [] i103 i104 i245 h246 n0 (Nat.le_trans Z0 E246.1) XO247 (own_chr gi104) (own_chr gi245)) hz246 (hw _ own_w4) (hw _ own_w3) (by decide) (by decide)) (g := (mkF m 113 #[.val (.int p0), .val (.int p1), .val (.int p2), .val (.int p3), .val (.int p4), .val (.int p5), .val (.int i101), .val (.int i102), .val (.int i103), .val (.int i104), .val (.int i105), .val (.int i104), .val (.int i245), .val (.ref r246), .unset, .unset, .unset] [(.int i245), (.int i104), (.int i103)])) rfl (by rw [hml]; rfl) (argsL := [(.int i103), (.int i104), (.int i245)]) (rest := []) (lenOf own_pd4 rfl) rfl (by show 2 * 0 + _ ≤ _; exact Nat.le_of_eq rfl) (hb hby at_113) (fun _ hv => ⟨rfl, e246, (by decide : 4 + 4 ≤ _), (by decide : 8 + 8 ≤ _), LS246.warm hv⟩)
      dsimp only [Pt.U, Pt.locs, Pt.cells, Pt.slots] at X248 l248 y248 z248 st248 hQ248 sn248 sg248
      subst l248 y248 z248
      obtain ⟨XX248, ss248, hz248, ho248⟩ := rebS ss246 (n1 := T246.heap.size) (by rw [e246]; exact Nat.le_trans (Nat.le_refl _) (Nat.le_refl _)) X248 sn248 sg248 hz246 ho246
      obtain ⟨r248, rfl, M248, E248, g248, Y248, LS248⟩ := hQ248
      have N248 := Fr.app N246 M248
      obtain ⟨h248, e248⟩ : ∃ z, T248.heap = z := ⟨_, rfl⟩
      rw [e248] at E248 LS248 ss248 Y248
      refine own_tr (S' := T248.setTop (mkF m 116 #[.val (.int p0), .val (.int p1), .val (.int p2), .val (.int p3), .val (.int p4), .val (.int p5), .val (.int i101), .val (.int i102), .val (.int i103), .val (.int i104), .val (.int i105), .val (.int i104), .val (.int i245), .val (.ref r246), .unset, .unset, .unset] [(.ref r248)])) st248 ?_
      refine own_st (S' := T248.setTop (mkF m 118 #[.val (.int p0), .val (.int p1), .val (.int p2), .val (.int p3), .val (.int p4), .val (.int p5), .val (.int i101), .val (.int i102), .val (.int i103), .val (.int i104), .val (.int i105), .val (.int i104), .val (.int i245), .val (.ref r246), .val (.ref r248), .unset, .unset] [])) (fun _ k => XS.astore XX248.here hx rfl (hb hby at_116) rfl rfl (l' := #[.val (.int p0), .val (.int p1), .val (.int p2), .val (.int p3), .val (.int p4), .val (.int p5), .val (.int i101), .val (.int i102), .val (.int i103), .val (.int i104), .val (.int i105), .val (.int i104), .val (.int i245), .val (.ref r246), .val (.ref r248), .unset, .unset]) rfl k) ?_
      obtain ⟨T249, h249, X249, e249, E249, A249, D249, -, st249⟩ := newO XX248 hx hz248 ho248 (hw _ own_w38) (hw _ own_w39) (hw _ own_w40) e248 (g := (mkF m 118 #[.val (.int p0), .val (.int p1), .val (.int p2), .val (.int p3), .val (.int p4), .val (.int p5), .val (.int i101), .val (.int i102), .val (.int i103), .val (.int i104), .val (.int i105), .val (.int i104), .val (.int i245), .val (.ref r246), .val (.ref r248), .unset, .unset] [])) rfl (hb hby at_118) (by decide) (by decide)
      obtain ⟨b249, g249⟩ : ∃ z, z = h248.size := ⟨_, rfl⟩
      rw [← g249] at A249 D249 st249
      refine own_st (S' := T249.setTop (mkF m 121 #[.val (.int p0), .val (.int p1), .val (.int p2), .val (.int p3), .val (.int p4), .val (.int p5), .val (.int i101), .val (.int i102), .val (.int i103), .val (.int i104), .val (.int i105), .val (.int i104), .val (.int i245), .val (.ref r246), .val (.ref r248), .unset, .unset] [(.ref b249)])) st249 ?_
      refine own_st (S' := T249.setTop (mkF m 124 #[.val (.int p0), .val (.int p1), .val (.int p2), .val (.int p3), .val (.int p4), .val (.int p5), .val (.int i101), .val (.int i102), .val (.int i103), .val (.int i104), .val (.int i105), .val (.int i104), .val (.int i245), .val (.ref r246), .val (.ref r248), .unset, .unset] [(.int i101), (.ref b249), (.ref b249)])) (fun _ k => XS.dup X249.here hx rfl (hb hby at_121) rfl rfl (XS.iload X249.here hx rfl (hb hby at_122) rfl k)) ?_
      have XE250 : Ext h246 h249 := (own_xt E248 E249)
      have XO251 : Old Z n0 h249 := (XO247.ext XE250)
      obtain ⟨_, _, ⟨T252, L252, k252, n252⟩, -, X252, ⟨Lc252, hQ252, l252, y252, z252⟩, st252⟩ := Jvm.LawKit.callS X249 hx (y := (⟨"com/example/librow/librow/TokenIsSymbolPinLaw", "kind", "(I)Lcom/example/librow/librow/QueryLexer$Kind;"⟩ : MethodName)) ho248 (mvT hz248 (hw _ own_w41)) (mvT hz248 (hw _ own_w42)) (mvT hz248 (hw _ own_w3)) (mvT hz248 (hw _ own_w43)) (by decide) (backOf (W := 2) (own_rm_kind l Z a0 hw G1 S1 P1 hCH hCW k0 k1 k2 k3 k4 k5 k6 B [] i101 h249 n0 (Nat.le_trans Z0 (Nat.le_trans (Nat.le_trans E246.1 E248.1) E249.1)) XO251 ) hz248 (hw _ own_w43) (hw _ own_w3) (by decide) (by decide)) (g := (mkF m 124 #[.val (.int p0), .val (.int p1), .val (.int p2), .val (.int p3), .val (.int p4), .val (.int p5), .val (.int i101), .val (.int i102), .val (.int i103), .val (.int i104), .val (.int i105), .val (.int i104), .val (.int i245), .val (.ref r246), .val (.ref r248), .unset, .unset] [(.int i101), (.ref b249), (.ref b249)])) rfl (by rw [hml]; rfl) (argsL := [(.int i101)]) (rest := [(.ref b249), (.ref b249)]) (lenOf own_pd5 rfl) rfl (by show 2 * 0 + _ ≤ _; exact Nat.le_of_eq rfl) (hb hby at_124) (fun _ _ => ⟨rfl, e249, (by decide : 9 + 0 ≤ _), (by decide : 20 + 0 ≤ _)⟩)
      dsimp only [Pt.U, Pt.locs, Pt.cells, Pt.slots] at X252 l252 y252 z252 st252 hQ252
      subst l252 y252 z252
      obtain ⟨r252, rfl, M252, e252, o252⟩ := hQ252
      have N252 := Fr.app N248 M252
      refine own_st (S' := T252.setTop (mkF m 127 #[.val (.int p0), .val (.int p1), .val (.int p2), .val (.int p3), .val (.int p4), .val (.int p5), .val (.int i101), .val (.int i102), .val (.int i103), .val (.int i104), .val (.int i105), .val (.int i104), .val (.int i245), .val (.ref r246), .val (.ref r248), .unset, .unset] [(.ref r252), (.ref b249), (.ref b249)])) st252 ?_
      refine own_st (S' := T252.setTop (mkF m 133 #[.val (.int p0), .val (.int p1), .val (.int p2), .val (.int p3), .val (.int p4), .val (.int p5), .val (.int i101), .val (.int i102), .val (.int i103), .val (.int i104), .val (.int i105), .val (.int i104), .val (.int i245), .val (.ref r246), .val (.ref r248), .unset, .unset] [(.int p5), (.int p4), (.ref r246), (.ref r252), (.ref b249), (.ref b249)])) (fun _ k => XS.aload X252.here hx rfl (hb hby at_127) rfl rfl (XS.iload X252.here hx rfl (hb hby at_129) rfl (XS.iload X252.here hx rfl (hb hby at_131) rfl k))) ?_
      obtain ⟨_, _, ⟨T253, L253, k253, n253⟩, -, X253, ⟨Lc253, hQ253, l253, y253, z253⟩, st253⟩ := X252.specialBack hx (y := (⟨"com/example/librow/librow/QueryLexer$Token", "<init>", "(Lcom/example/librow/librow/QueryLexer$Kind;Ljava/lang/String;II)V"⟩ : MethodName)) rfl ho248 (mvT hz248 (hw _ own_w47)) (mvT hz248 (hw _ own_w48)) (mvT hz248 (hw _ own_w49)) (by decide) (backOf (W := 1) (own_rm_tok l Z a0 hw G1 S1 P1 hCH hCW k0 k1 k2 k3 k4 k5 k6 B [] b249 r252 r246 p4 p5 h249 n0 (Nat.le_trans Z0 (Nat.le_trans (Nat.le_trans E246.1 E248.1) E249.1)) XO251 (Nat.le_trans Z0 (Nat.le_trans (Nat.le_trans E246.1 E248.1) (Nat.le_of_eq g249.symm))) A249 (D249 (Or.inr (hw _ own_w57)) (ty := (.object "com/example/librow/librow/QueryLexer$Kind")) (by decide)) (D249 (Or.inr (hw _ own_w59)) (ty := (.object "java/lang/String")) (by decide)) (D249 (Or.inr (hw _ own_w61)) (ty := .int) (by decide)) (D249 (Or.inr (hw _ own_w63)) (ty := .int) (by decide))) hz248 (hw _ own_w49) (hw _ own_w40) (by decide) (by decide)) (g := (mkF m 133 #[.val (.int p0), .val (.int p1), .val (.int p2), .val (.int p3), .val (.int p4), .val (.int p5), .val (.int i101), .val (.int i102), .val (.int i103), .val (.int i104), .val (.int i105), .val (.int i104), .val (.int i245), .val (.ref r246), .val (.ref r248), .unset, .unset] [(.int p5), (.int p4), (.ref r246), (.ref r252), (.ref b249), (.ref b249)])) rfl (by rw [hml]; rfl) (Steps.refl _) (a := b249) (argsL := [(.ref r252), (.ref r246), (.int p4), (.int p5)]) (rest := [(.ref b249)]) (lenOf own_pd6 rfl) rfl (by show 2 * 0 + _ ≤ _; exact Nat.le_of_eq rfl) (hb hby at_133) (fun _ _ => ⟨rfl, e252, (by decide : 9 + 0 ≤ _), (by decide : 20 + 0 ≤ _)⟩)
      dsimp only [Pt.U, Pt.locs, Pt.cells, Pt.slots] at X253 l253 y253 z253 st253 hQ253
      subst l253 y253 z253
      obtain ⟨rfl, M253, K253, Fk253, Ft253⟩ := hQ253
      have N253 := Fr.app N252 M253
      obtain ⟨h253, e253⟩ : ∃ z, T253.heap = z := ⟨_, rfl⟩
      rw [e253] at K253 Fk253 Ft253
      refine own_tr (S' := T253.setTop (mkF m 136 #[.val (.int p0), .val (.int p1), .val (.int p2), .val (.int p3), .val (.int p4), .val (.int p5), .val (.int i101), .val (.int i102), .val (.int i103), .val (.int i104), .val (.int i105), .val (.int i104), .val (.int i245), .val (.ref r246), .val (.ref r248), .unset, .unset] [(.ref b249)])) st253 ?_
      refine own_st (S' := T253.setTop (mkF m 141 #[.val (.int p0), .val (.int p1), .val (.int p2), .val (.int p3), .val (.int p4), .val (.int p5), .val (.int i101), .val (.int i102), .val (.int i103), .val (.int i104), .val (.int i105), .val (.int i104), .val (.int i245), .val (.ref r246), .val (.ref r248), .val (.ref b249), .unset] [(.int (5 : Int32)), (.int i101)])) (fun _ k => XS.astore X253.here hx rfl (hb hby at_136) rfl rfl (l' := #[.val (.int p0), .val (.int p1), .val (.int p2), .val (.int p3), .val (.int p4), .val (.int p5), .val (.int i101), .val (.int i102), .val (.int i103), .val (.int i104), .val (.int i105), .val (.int i104), .val (.int i245), .val (.ref r246), .val (.ref r248), .val (.ref b249), .unset]) rfl (XS.iload X253.here hx rfl (hb hby at_138) rfl (XS.iconst X253.here hx rfl (hb hby at_140) k))) ?_
      by_cases hc254 : i101 = (5 : Int32)
      · refine own_st (S' := T253.setTop (mkF m 148 #[.val (.int p0), .val (.int p1), .val (.int p2), .val (.int p3), .val (.int p4), .val (.int p5), .val (.int i101), .val (.int i102), .val (.int i103), .val (.int i104), .val (.int i105), .val (.int i104), .val (.int i245), .val (.ref r246), .val (.ref r248), .val (.ref b249), .unset] [(.int i103), (.int i102)])) (fun _ k => XS.icmpNo X253.here hx rfl (hb hby at_141) rfl (teq hc254).2 (XS.iload X253.here hx rfl (hb hby at_144) rfl (XS.iload X253.here hx rfl (hb hby at_146) rfl k))) ?_
        by_cases hc255 : i102 = i103
        · refine own_st (S' := T253.setTop (mkF m 154 #[.val (.int p0), .val (.int p1), .val (.int p2), .val (.int p3), .val (.int p4), .val (.int p5), .val (.int i101), .val (.int i102), .val (.int i103), .val (.int i104), .val (.int i105), .val (.int i104), .val (.int i245), .val (.ref r246), .val (.ref r248), .val (.ref b249), .unset] [(.int (1 : Int32)), (.int i102)])) (fun _ k => XS.icmpNo X253.here hx rfl (hb hby at_148) rfl (teq hc255).2 (XS.iload X253.here hx rfl (hb hby at_151) rfl (XS.iconst X253.here hx rfl (hb hby at_153) k))) ?_
          by_cases hc256 : i102 < (1 : Int32)
          · refine own_st (S' := T253.setTop (mkF m 167 #[.val (.int p0), .val (.int p1), .val (.int p2), .val (.int p3), .val (.int p4), .val (.int p5), .val (.int i101), .val (.int i102), .val (.int i103), .val (.int i104), .val (.int i105), .val (.int i104), .val (.int i245), .val (.ref r246), .val (.ref r248), .val (.ref b249), .unset] [(.int (2 : Int32)), (.int i102)])) (fun _ k => XS.icmpYes X253.here hx rfl (pc0 := 154) (pc' := 164) rfl (hb hby at_154) rfl (tlt hc256).1 (by decide) (by decide) (XS.iload X253.here hx rfl (hb hby at_164) rfl (XS.iconst X253.here hx rfl (hb hby at_166) k))) ?_
            by_cases hc257 : i102 < (2 : Int32)
            · refine own_st (S' := T253.setTop (mkF m 184 #[.val (.int p0), .val (.int p1), .val (.int p2), .val (.int p3), .val (.int p4), .val (.int p5), .val (.int i101), .val (.int i102), .val (.int i103), .val (.int i104), .val (.int i105), .val (.int i104), .val (.int i245), .val (.ref r246), .val (.ref r248), .val (.ref b249), .val (.int (1 : Int32))] [])) (fun _ k => XS.icmpYes X253.here hx rfl (pc0 := 167) (pc' := 177) rfl (hb hby at_167) rfl (tlt hc257).1 (by decide) (by decide) (XS.iconst X253.here hx rfl (hb hby at_177) (XS.goto X253.here hx rfl (pc0 := 178) (pc' := 182) rfl (hb hby at_178) (by decide) (by decide) (XS.istore X253.here hx rfl (hb hby at_182) rfl (l' := #[.val (.int p0), .val (.int p1), .val (.int p2), .val (.int p3), .val (.int p4), .val (.int p5), .val (.int i101), .val (.int i102), .val (.int i103), .val (.int i104), .val (.int i105), .val (.int i104), .val (.int i245), .val (.ref r246), .val (.ref r248), .val (.ref b249), .val (.int (1 : Int32))]) rfl k)))) ?_
              refine own_st (S' := T253.setTop (mkF m 188 #[.val (.int p0), .val (.int p1), .val (.int p2), .val (.int p3), .val (.int p4), .val (.int p5), .val (.int i101), .val (.int i102), .val (.int i103), .val (.int i104), .val (.int i105), .val (.int i104), .val (.int i245), .val (.ref r246), .val (.ref r248), .val (.ref b249), .val (.int (1 : Int32))] [(.ref r248), (.ref b249)])) (fun _ k => XS.aload X253.here hx rfl (hb hby at_184) rfl rfl (XS.aload X253.here hx rfl (hb hby at_186) rfl rfl k)) ?_
              have hke : r252 = k5 := o252.elim (fun q => q.2) fun q => absurd hc254 q.1
              have Fk5 : Fld Z h253 b249 "com/example/librow/librow/QueryLexer$Token" "kind" "Lcom/example/librow/librow/QueryLexer$Kind;" (.ref k5) := hke ▸ Fk253
              have XE258 : Ext h246 h253 := (own_xk XE250 K253 (allS (Nat.le_trans E248.1 (Nat.le_of_eq g249.symm)) all0))
              have G259 : own_Str Z h253 r246 (own_txt i102 i104 i105) := (Y246.ext XE258)
              have XE260 : Ext h248 h253 := (own_xk E249 K253 (allS (Nat.le_of_eq g249.symm) all0))
              have G261 : own_Str Z h253 r248 (own_txt i103 i104 i245) := (Y248.ext XE260)
              have XO262 : Old Z n0 h253 := (XO251.keep K253 (allS (Nat.le_trans Z0 (Nat.le_trans (Nat.le_trans E246.1 E248.1) (Nat.le_of_eq g249.symm))) all0))
              have A264 : Exa Z h253 b249 "com/example/librow/librow/QueryLexer$Token" := (A249.keep K253)
              obtain ⟨cq263, kq263, q263a, q263b, q263c⟩ := isOf hz248 e253 A264
              obtain ⟨_, _, ⟨T263, L263, k263, n263⟩, -, X263, ⟨Lc263, hQ263, l263, y263, z263⟩, st263⟩ := X253.virtualBack hx (y := (⟨"com/example/librow/librow/QueryLexer$Token", "isSymbol", "(Ljava/lang/String;)Z"⟩ : MethodName)) (z := (⟨"com/example/librow/librow/QueryLexer$Token", "isSymbol", "(Ljava/lang/String;)Z"⟩ : MethodName)) ho248 (mvT hz248 (hw _ own_w64)) (mvT hz248 (hw _ own_w65)) (notFace_of_selects (args := #[]) (mvT hz248 (hw _ own_w67))) (mvT hz248 (hw _ own_w67)) (mvT hz248 (hw _ own_w66)) (by decide) (backOf (W := 0) (own_rm_isy l Z a0 hw G1 S1 P1 hCH hCW k0 k1 k2 k3 k4 k5 k6 B [] b249 r248 r246 (own_txt i102 i104 i105) (own_txt i103 i104 i245) h253 n0 (Nat.le_trans Z0 (Nat.le_trans (Nat.le_trans (Nat.le_trans E246.1 E248.1) E249.1) K253.1)) XO262 Fk5 Ft253 G259 G261) hz248 (hw _ own_w68) (hw _ own_w40) (by decide) (by decide)) q263a q263c (g := (mkF m 188 #[.val (.int p0), .val (.int p1), .val (.int p2), .val (.int p3), .val (.int p4), .val (.int p5), .val (.int i101), .val (.int i102), .val (.int i103), .val (.int i104), .val (.int i105), .val (.int i104), .val (.int i245), .val (.ref r246), .val (.ref r248), .val (.ref b249), .val (.int (1 : Int32))] [(.ref r248), (.ref b249)])) rfl (by rw [hml]; rfl) (Steps.refl _) (argsL := [(.ref r248)]) (rest := []) (lenOf own_pd7 rfl) rfl (by show 2 * 0 + _ ≤ _; exact Nat.le_of_eq rfl) (hb hby at_188) (fun _ _ => ⟨rfl, e253, (by decide : 9 + 0 ≤ _), (by decide : 20 + 0 ≤ _)⟩)
              dsimp only [Pt.U, Pt.locs, Pt.cells, Pt.slots] at X263 l263 y263 z263 st263 hQ263
              subst l263 y263 z263
              obtain ⟨o263, M263, e263⟩ := hQ263
              have N263 := Fr.app N253 M263
              obtain ⟨rfl, -⟩ := own_pickY o263 ((own_txt_eq (own_rem3 gi102) (own_rem3 gi103)).mpr ⟨hc255, Or.inl hc256, Or.inl hc257⟩)
              refine own_tr (S' := T263.setTop (mkF m 191 #[.val (.int p0), .val (.int p1), .val (.int p2), .val (.int p3), .val (.int p4), .val (.int p5), .val (.int i101), .val (.int i102), .val (.int i103), .val (.int i104), .val (.int i105), .val (.int i104), .val (.int i245), .val (.ref r246), .val (.ref r248), .val (.ref b249), .val (.int (1 : Int32))] [(.int (1 : Int32))])) st263 ?_
              refine own_st (S' := T263.setTop (mkF m 201 #[.val (.int p0), .val (.int p1), .val (.int p2), .val (.int p3), .val (.int p4), .val (.int p5), .val (.int i101), .val (.int i102), .val (.int i103), .val (.int i104), .val (.int i105), .val (.int i104), .val (.int i245), .val (.ref r246), .val (.ref r248), .val (.ref b249), .val (.int (1 : Int32))] [(.int (1 : Int32))])) (fun _ k => XS.iload X263.here hx rfl (hb hby at_191) rfl (XS.icmpNo X263.here hx rfl (hb hby at_193) rfl (by decide) (XS.iconst X263.here hx rfl (hb hby at_196) (XS.goto X263.here hx rfl (pc0 := 197) (pc' := 201) rfl (hb hby at_197) (by decide) (by decide) k)))) ?_
              refine own_retW X263 hx ss248 (by rw [e263]; exact Nat.le_trans (Nat.le_refl _) (Nat.le_trans E249.1 K253.1)) Bd.returns hlk rfl (Or.inl ⟨rfl, (by simp), _, rfl⟩) (hb hby at_201) (by decide) (by decide) ?_
              rw [e263]
              exact ⟨rfl, N263⟩
            · refine own_st (S' := T253.setTop (mkF m 174 #[.val (.int p0), .val (.int p1), .val (.int p2), .val (.int p3), .val (.int p4), .val (.int p5), .val (.int i101), .val (.int i102), .val (.int i103), .val (.int i104), .val (.int i105), .val (.int i104), .val (.int i245), .val (.ref r246), .val (.ref r248), .val (.ref b249), .unset] [(.int i245), (.int i105)])) (fun _ k => XS.icmpNo X253.here hx rfl (hb hby at_167) rfl (flt hc257).1 (XS.iload X253.here hx rfl (hb hby at_170) rfl (XS.iload X253.here hx rfl (hb hby at_172) rfl k))) ?_
              by_cases hc265 : i105 = i245
              · refine own_st (S' := T253.setTop (mkF m 184 #[.val (.int p0), .val (.int p1), .val (.int p2), .val (.int p3), .val (.int p4), .val (.int p5), .val (.int i101), .val (.int i102), .val (.int i103), .val (.int i104), .val (.int i105), .val (.int i104), .val (.int i245), .val (.ref r246), .val (.ref r248), .val (.ref b249), .val (.int (1 : Int32))] [])) (fun _ k => XS.icmpNo X253.here hx rfl (hb hby at_174) rfl (teq hc265).2 (XS.iconst X253.here hx rfl (hb hby at_177) (XS.goto X253.here hx rfl (pc0 := 178) (pc' := 182) rfl (hb hby at_178) (by decide) (by decide) (XS.istore X253.here hx rfl (hb hby at_182) rfl (l' := #[.val (.int p0), .val (.int p1), .val (.int p2), .val (.int p3), .val (.int p4), .val (.int p5), .val (.int i101), .val (.int i102), .val (.int i103), .val (.int i104), .val (.int i105), .val (.int i104), .val (.int i245), .val (.ref r246), .val (.ref r248), .val (.ref b249), .val (.int (1 : Int32))]) rfl k)))) ?_
                refine own_st (S' := T253.setTop (mkF m 188 #[.val (.int p0), .val (.int p1), .val (.int p2), .val (.int p3), .val (.int p4), .val (.int p5), .val (.int i101), .val (.int i102), .val (.int i103), .val (.int i104), .val (.int i105), .val (.int i104), .val (.int i245), .val (.ref r246), .val (.ref r248), .val (.ref b249), .val (.int (1 : Int32))] [(.ref r248), (.ref b249)])) (fun _ k => XS.aload X253.here hx rfl (hb hby at_184) rfl rfl (XS.aload X253.here hx rfl (hb hby at_186) rfl rfl k)) ?_
                have hke : r252 = k5 := o252.elim (fun q => q.2) fun q => absurd hc254 q.1
                have Fk5 : Fld Z h253 b249 "com/example/librow/librow/QueryLexer$Token" "kind" "Lcom/example/librow/librow/QueryLexer$Kind;" (.ref k5) := hke ▸ Fk253
                have XE266 : Ext h246 h253 := (own_xk XE250 K253 (allS (Nat.le_trans E248.1 (Nat.le_of_eq g249.symm)) all0))
                have G267 : own_Str Z h253 r246 (own_txt i102 i104 i105) := (Y246.ext XE266)
                have XE268 : Ext h248 h253 := (own_xk E249 K253 (allS (Nat.le_of_eq g249.symm) all0))
                have G269 : own_Str Z h253 r248 (own_txt i103 i104 i245) := (Y248.ext XE268)
                have XO270 : Old Z n0 h253 := (XO251.keep K253 (allS (Nat.le_trans Z0 (Nat.le_trans (Nat.le_trans E246.1 E248.1) (Nat.le_of_eq g249.symm))) all0))
                have A272 : Exa Z h253 b249 "com/example/librow/librow/QueryLexer$Token" := (A249.keep K253)
                obtain ⟨cq271, kq271, q271a, q271b, q271c⟩ := isOf hz248 e253 A272
                obtain ⟨_, _, ⟨T271, L271, k271, n271⟩, -, X271, ⟨Lc271, hQ271, l271, y271, z271⟩, st271⟩ := X253.virtualBack hx (y := (⟨"com/example/librow/librow/QueryLexer$Token", "isSymbol", "(Ljava/lang/String;)Z"⟩ : MethodName)) (z := (⟨"com/example/librow/librow/QueryLexer$Token", "isSymbol", "(Ljava/lang/String;)Z"⟩ : MethodName)) ho248 (mvT hz248 (hw _ own_w64)) (mvT hz248 (hw _ own_w65)) (notFace_of_selects (args := #[]) (mvT hz248 (hw _ own_w67))) (mvT hz248 (hw _ own_w67)) (mvT hz248 (hw _ own_w66)) (by decide) (backOf (W := 0) (own_rm_isy l Z a0 hw G1 S1 P1 hCH hCW k0 k1 k2 k3 k4 k5 k6 B [] b249 r248 r246 (own_txt i102 i104 i105) (own_txt i103 i104 i245) h253 n0 (Nat.le_trans Z0 (Nat.le_trans (Nat.le_trans (Nat.le_trans E246.1 E248.1) E249.1) K253.1)) XO270 Fk5 Ft253 G267 G269) hz248 (hw _ own_w68) (hw _ own_w40) (by decide) (by decide)) q271a q271c (g := (mkF m 188 #[.val (.int p0), .val (.int p1), .val (.int p2), .val (.int p3), .val (.int p4), .val (.int p5), .val (.int i101), .val (.int i102), .val (.int i103), .val (.int i104), .val (.int i105), .val (.int i104), .val (.int i245), .val (.ref r246), .val (.ref r248), .val (.ref b249), .val (.int (1 : Int32))] [(.ref r248), (.ref b249)])) rfl (by rw [hml]; rfl) (Steps.refl _) (argsL := [(.ref r248)]) (rest := []) (lenOf own_pd7 rfl) rfl (by show 2 * 0 + _ ≤ _; exact Nat.le_of_eq rfl) (hb hby at_188) (fun _ _ => ⟨rfl, e253, (by decide : 9 + 0 ≤ _), (by decide : 20 + 0 ≤ _)⟩)
                dsimp only [Pt.U, Pt.locs, Pt.cells, Pt.slots] at X271 l271 y271 z271 st271 hQ271
                subst l271 y271 z271
                obtain ⟨o271, M271, e271⟩ := hQ271
                have N271 := Fr.app N253 M271
                obtain ⟨rfl, -⟩ := own_pickY o271 ((own_txt_eq (own_rem3 gi102) (own_rem3 gi103)).mpr ⟨hc255, Or.inl hc256, Or.inr hc265⟩)
                refine own_tr (S' := T271.setTop (mkF m 191 #[.val (.int p0), .val (.int p1), .val (.int p2), .val (.int p3), .val (.int p4), .val (.int p5), .val (.int i101), .val (.int i102), .val (.int i103), .val (.int i104), .val (.int i105), .val (.int i104), .val (.int i245), .val (.ref r246), .val (.ref r248), .val (.ref b249), .val (.int (1 : Int32))] [(.int (1 : Int32))])) st271 ?_
                refine own_st (S' := T271.setTop (mkF m 201 #[.val (.int p0), .val (.int p1), .val (.int p2), .val (.int p3), .val (.int p4), .val (.int p5), .val (.int i101), .val (.int i102), .val (.int i103), .val (.int i104), .val (.int i105), .val (.int i104), .val (.int i245), .val (.ref r246), .val (.ref r248), .val (.ref b249), .val (.int (1 : Int32))] [(.int (1 : Int32))])) (fun _ k => XS.iload X271.here hx rfl (hb hby at_191) rfl (XS.icmpNo X271.here hx rfl (hb hby at_193) rfl (by decide) (XS.iconst X271.here hx rfl (hb hby at_196) (XS.goto X271.here hx rfl (pc0 := 197) (pc' := 201) rfl (hb hby at_197) (by decide) (by decide) k)))) ?_
                refine own_retW X271 hx ss248 (by rw [e271]; exact Nat.le_trans (Nat.le_refl _) (Nat.le_trans E249.1 K253.1)) Bd.returns hlk rfl (Or.inl ⟨rfl, (by simp), _, rfl⟩) (hb hby at_201) (by decide) (by decide) ?_
                rw [e271]
                exact ⟨rfl, N271⟩
              · refine own_st (S' := T253.setTop (mkF m 186 #[.val (.int p0), .val (.int p1), .val (.int p2), .val (.int p3), .val (.int p4), .val (.int p5), .val (.int i101), .val (.int i102), .val (.int i103), .val (.int i104), .val (.int i105), .val (.int i104), .val (.int i245), .val (.ref r246), .val (.ref r248), .val (.ref b249), .val (.int (0 : Int32))] [(.ref b249)])) (fun _ k => XS.icmpYes X253.here hx rfl (pc0 := 174) (pc' := 181) rfl (hb hby at_174) rfl (feq hc265).2 (by decide) (by decide) (XS.iconst X253.here hx rfl (hb hby at_181) (XS.istore X253.here hx rfl (hb hby at_182) rfl (l' := #[.val (.int p0), .val (.int p1), .val (.int p2), .val (.int p3), .val (.int p4), .val (.int p5), .val (.int i101), .val (.int i102), .val (.int i103), .val (.int i104), .val (.int i105), .val (.int i104), .val (.int i245), .val (.ref r246), .val (.ref r248), .val (.ref b249), .val (.int (0 : Int32))]) rfl (XS.aload X253.here hx rfl (hb hby at_184) rfl rfl k)))) ?_
                refine own_st (S' := T253.setTop (mkF m 188 #[.val (.int p0), .val (.int p1), .val (.int p2), .val (.int p3), .val (.int p4), .val (.int p5), .val (.int i101), .val (.int i102), .val (.int i103), .val (.int i104), .val (.int i105), .val (.int i104), .val (.int i245), .val (.ref r246), .val (.ref r248), .val (.ref b249), .val (.int (0 : Int32))] [(.ref r248), (.ref b249)])) (fun _ k => XS.aload X253.here hx rfl (hb hby at_186) rfl rfl k) ?_
                have hke : r252 = k5 := o252.elim (fun q => q.2) fun q => absurd hc254 q.1
                have Fk5 : Fld Z h253 b249 "com/example/librow/librow/QueryLexer$Token" "kind" "Lcom/example/librow/librow/QueryLexer$Kind;" (.ref k5) := hke ▸ Fk253
                have XE273 : Ext h246 h253 := (own_xk XE250 K253 (allS (Nat.le_trans E248.1 (Nat.le_of_eq g249.symm)) all0))
                have G274 : own_Str Z h253 r246 (own_txt i102 i104 i105) := (Y246.ext XE273)
                have XE275 : Ext h248 h253 := (own_xk E249 K253 (allS (Nat.le_of_eq g249.symm) all0))
                have G276 : own_Str Z h253 r248 (own_txt i103 i104 i245) := (Y248.ext XE275)
                have XO277 : Old Z n0 h253 := (XO251.keep K253 (allS (Nat.le_trans Z0 (Nat.le_trans (Nat.le_trans E246.1 E248.1) (Nat.le_of_eq g249.symm))) all0))
                have A279 : Exa Z h253 b249 "com/example/librow/librow/QueryLexer$Token" := (A249.keep K253)
                obtain ⟨cq278, kq278, q278a, q278b, q278c⟩ := isOf hz248 e253 A279
                obtain ⟨_, _, ⟨T278, L278, k278, n278⟩, -, X278, ⟨Lc278, hQ278, l278, y278, z278⟩, st278⟩ := X253.virtualBack hx (y := (⟨"com/example/librow/librow/QueryLexer$Token", "isSymbol", "(Ljava/lang/String;)Z"⟩ : MethodName)) (z := (⟨"com/example/librow/librow/QueryLexer$Token", "isSymbol", "(Ljava/lang/String;)Z"⟩ : MethodName)) ho248 (mvT hz248 (hw _ own_w64)) (mvT hz248 (hw _ own_w65)) (notFace_of_selects (args := #[]) (mvT hz248 (hw _ own_w67))) (mvT hz248 (hw _ own_w67)) (mvT hz248 (hw _ own_w66)) (by decide) (backOf (W := 0) (own_rm_isy l Z a0 hw G1 S1 P1 hCH hCW k0 k1 k2 k3 k4 k5 k6 B [] b249 r248 r246 (own_txt i102 i104 i105) (own_txt i103 i104 i245) h253 n0 (Nat.le_trans Z0 (Nat.le_trans (Nat.le_trans (Nat.le_trans E246.1 E248.1) E249.1) K253.1)) XO277 Fk5 Ft253 G274 G276) hz248 (hw _ own_w68) (hw _ own_w40) (by decide) (by decide)) q278a q278c (g := (mkF m 188 #[.val (.int p0), .val (.int p1), .val (.int p2), .val (.int p3), .val (.int p4), .val (.int p5), .val (.int i101), .val (.int i102), .val (.int i103), .val (.int i104), .val (.int i105), .val (.int i104), .val (.int i245), .val (.ref r246), .val (.ref r248), .val (.ref b249), .val (.int (0 : Int32))] [(.ref r248), (.ref b249)])) rfl (by rw [hml]; rfl) (Steps.refl _) (argsL := [(.ref r248)]) (rest := []) (lenOf own_pd7 rfl) rfl (by show 2 * 0 + _ ≤ _; exact Nat.le_of_eq rfl) (hb hby at_188) (fun _ _ => ⟨rfl, e253, (by decide : 9 + 0 ≤ _), (by decide : 20 + 0 ≤ _)⟩)
                dsimp only [Pt.U, Pt.locs, Pt.cells, Pt.slots] at X278 l278 y278 z278 st278 hQ278
                subst l278 y278 z278
                obtain ⟨o278, M278, e278⟩ := hQ278
                have N278 := Fr.app N253 M278
                obtain ⟨rfl, -⟩ := own_pickN o278 (fun q => ((own_txt_eq (own_rem3 gi102) (own_rem3 gi103)).mp q).2.2.elim hc257 hc265)
                refine own_tr (S' := T278.setTop (mkF m 191 #[.val (.int p0), .val (.int p1), .val (.int p2), .val (.int p3), .val (.int p4), .val (.int p5), .val (.int i101), .val (.int i102), .val (.int i103), .val (.int i104), .val (.int i105), .val (.int i104), .val (.int i245), .val (.ref r246), .val (.ref r248), .val (.ref b249), .val (.int (0 : Int32))] [(.int (0 : Int32))])) st278 ?_
                refine own_st (S' := T278.setTop (mkF m 201 #[.val (.int p0), .val (.int p1), .val (.int p2), .val (.int p3), .val (.int p4), .val (.int p5), .val (.int i101), .val (.int i102), .val (.int i103), .val (.int i104), .val (.int i105), .val (.int i104), .val (.int i245), .val (.ref r246), .val (.ref r248), .val (.ref b249), .val (.int (0 : Int32))] [(.int (1 : Int32))])) (fun _ k => XS.iload X278.here hx rfl (hb hby at_191) rfl (XS.icmpNo X278.here hx rfl (hb hby at_193) rfl (by decide) (XS.iconst X278.here hx rfl (hb hby at_196) (XS.goto X278.here hx rfl (pc0 := 197) (pc' := 201) rfl (hb hby at_197) (by decide) (by decide) k)))) ?_
                refine own_retW X278 hx ss248 (by rw [e278]; exact Nat.le_trans (Nat.le_refl _) (Nat.le_trans E249.1 K253.1)) Bd.returns hlk rfl (Or.inl ⟨rfl, (by simp), _, rfl⟩) (hb hby at_201) (by decide) (by decide) ?_
                rw [e278]
                exact ⟨rfl, N278⟩
          · refine own_st (S' := T253.setTop (mkF m 164 #[.val (.int p0), .val (.int p1), .val (.int p2), .val (.int p3), .val (.int p4), .val (.int p5), .val (.int i101), .val (.int i102), .val (.int i103), .val (.int i104), .val (.int i105), .val (.int i104), .val (.int i245), .val (.ref r246), .val (.ref r248), .val (.ref b249), .unset] [])) (fun _ k => XS.icmpNo X253.here hx rfl (hb hby at_154) rfl (flt hc256).1 (XS.iload X253.here hx rfl (hb hby at_157) rfl (XS.iload X253.here hx rfl (hb hby at_159) rfl (XS.icmpNo X253.here hx rfl (hb hby at_161) rfl (teq rfl).2 k)))) ?_
            refine own_st (S' := T253.setTop (mkF m 167 #[.val (.int p0), .val (.int p1), .val (.int p2), .val (.int p3), .val (.int p4), .val (.int p5), .val (.int i101), .val (.int i102), .val (.int i103), .val (.int i104), .val (.int i105), .val (.int i104), .val (.int i245), .val (.ref r246), .val (.ref r248), .val (.ref b249), .unset] [(.int (2 : Int32)), (.int i102)])) (fun _ k => XS.iload X253.here hx rfl (hb hby at_164) rfl (XS.iconst X253.here hx rfl (hb hby at_166) k)) ?_
            by_cases hc280 : i102 < (2 : Int32)
            · refine own_st (S' := T253.setTop (mkF m 184 #[.val (.int p0), .val (.int p1), .val (.int p2), .val (.int p3), .val (.int p4), .val (.int p5), .val (.int i101), .val (.int i102), .val (.int i103), .val (.int i104), .val (.int i105), .val (.int i104), .val (.int i245), .val (.ref r246), .val (.ref r248), .val (.ref b249), .val (.int (1 : Int32))] [])) (fun _ k => XS.icmpYes X253.here hx rfl (pc0 := 167) (pc' := 177) rfl (hb hby at_167) rfl (tlt hc280).1 (by decide) (by decide) (XS.iconst X253.here hx rfl (hb hby at_177) (XS.goto X253.here hx rfl (pc0 := 178) (pc' := 182) rfl (hb hby at_178) (by decide) (by decide) (XS.istore X253.here hx rfl (hb hby at_182) rfl (l' := #[.val (.int p0), .val (.int p1), .val (.int p2), .val (.int p3), .val (.int p4), .val (.int p5), .val (.int i101), .val (.int i102), .val (.int i103), .val (.int i104), .val (.int i105), .val (.int i104), .val (.int i245), .val (.ref r246), .val (.ref r248), .val (.ref b249), .val (.int (1 : Int32))]) rfl k)))) ?_
              refine own_st (S' := T253.setTop (mkF m 188 #[.val (.int p0), .val (.int p1), .val (.int p2), .val (.int p3), .val (.int p4), .val (.int p5), .val (.int i101), .val (.int i102), .val (.int i103), .val (.int i104), .val (.int i105), .val (.int i104), .val (.int i245), .val (.ref r246), .val (.ref r248), .val (.ref b249), .val (.int (1 : Int32))] [(.ref r248), (.ref b249)])) (fun _ k => XS.aload X253.here hx rfl (hb hby at_184) rfl rfl (XS.aload X253.here hx rfl (hb hby at_186) rfl rfl k)) ?_
              have hke : r252 = k5 := o252.elim (fun q => q.2) fun q => absurd hc254 q.1
              have Fk5 : Fld Z h253 b249 "com/example/librow/librow/QueryLexer$Token" "kind" "Lcom/example/librow/librow/QueryLexer$Kind;" (.ref k5) := hke ▸ Fk253
              have XE281 : Ext h246 h253 := (own_xk XE250 K253 (allS (Nat.le_trans E248.1 (Nat.le_of_eq g249.symm)) all0))
              have G282 : own_Str Z h253 r246 (own_txt i102 i104 i105) := (Y246.ext XE281)
              have XE283 : Ext h248 h253 := (own_xk E249 K253 (allS (Nat.le_of_eq g249.symm) all0))
              have G284 : own_Str Z h253 r248 (own_txt i103 i104 i245) := (Y248.ext XE283)
              have XO285 : Old Z n0 h253 := (XO251.keep K253 (allS (Nat.le_trans Z0 (Nat.le_trans (Nat.le_trans E246.1 E248.1) (Nat.le_of_eq g249.symm))) all0))
              have A287 : Exa Z h253 b249 "com/example/librow/librow/QueryLexer$Token" := (A249.keep K253)
              obtain ⟨cq286, kq286, q286a, q286b, q286c⟩ := isOf hz248 e253 A287
              obtain ⟨_, _, ⟨T286, L286, k286, n286⟩, -, X286, ⟨Lc286, hQ286, l286, y286, z286⟩, st286⟩ := X253.virtualBack hx (y := (⟨"com/example/librow/librow/QueryLexer$Token", "isSymbol", "(Ljava/lang/String;)Z"⟩ : MethodName)) (z := (⟨"com/example/librow/librow/QueryLexer$Token", "isSymbol", "(Ljava/lang/String;)Z"⟩ : MethodName)) ho248 (mvT hz248 (hw _ own_w64)) (mvT hz248 (hw _ own_w65)) (notFace_of_selects (args := #[]) (mvT hz248 (hw _ own_w67))) (mvT hz248 (hw _ own_w67)) (mvT hz248 (hw _ own_w66)) (by decide) (backOf (W := 0) (own_rm_isy l Z a0 hw G1 S1 P1 hCH hCW k0 k1 k2 k3 k4 k5 k6 B [] b249 r248 r246 (own_txt i102 i104 i105) (own_txt i103 i104 i245) h253 n0 (Nat.le_trans Z0 (Nat.le_trans (Nat.le_trans (Nat.le_trans E246.1 E248.1) E249.1) K253.1)) XO285 Fk5 Ft253 G282 G284) hz248 (hw _ own_w68) (hw _ own_w40) (by decide) (by decide)) q286a q286c (g := (mkF m 188 #[.val (.int p0), .val (.int p1), .val (.int p2), .val (.int p3), .val (.int p4), .val (.int p5), .val (.int i101), .val (.int i102), .val (.int i103), .val (.int i104), .val (.int i105), .val (.int i104), .val (.int i245), .val (.ref r246), .val (.ref r248), .val (.ref b249), .val (.int (1 : Int32))] [(.ref r248), (.ref b249)])) rfl (by rw [hml]; rfl) (Steps.refl _) (argsL := [(.ref r248)]) (rest := []) (lenOf own_pd7 rfl) rfl (by show 2 * 0 + _ ≤ _; exact Nat.le_of_eq rfl) (hb hby at_188) (fun _ _ => ⟨rfl, e253, (by decide : 9 + 0 ≤ _), (by decide : 20 + 0 ≤ _)⟩)
              dsimp only [Pt.U, Pt.locs, Pt.cells, Pt.slots] at X286 l286 y286 z286 st286 hQ286
              subst l286 y286 z286
              obtain ⟨o286, M286, e286⟩ := hQ286
              have N286 := Fr.app N253 M286
              obtain ⟨rfl, -⟩ := own_pickY o286 ((own_txt_eq (own_rem3 gi102) (own_rem3 gi103)).mpr ⟨hc255, Or.inr rfl, Or.inl hc280⟩)
              refine own_tr (S' := T286.setTop (mkF m 191 #[.val (.int p0), .val (.int p1), .val (.int p2), .val (.int p3), .val (.int p4), .val (.int p5), .val (.int i101), .val (.int i102), .val (.int i103), .val (.int i104), .val (.int i105), .val (.int i104), .val (.int i245), .val (.ref r246), .val (.ref r248), .val (.ref b249), .val (.int (1 : Int32))] [(.int (1 : Int32))])) st286 ?_
              refine own_st (S' := T286.setTop (mkF m 201 #[.val (.int p0), .val (.int p1), .val (.int p2), .val (.int p3), .val (.int p4), .val (.int p5), .val (.int i101), .val (.int i102), .val (.int i103), .val (.int i104), .val (.int i105), .val (.int i104), .val (.int i245), .val (.ref r246), .val (.ref r248), .val (.ref b249), .val (.int (1 : Int32))] [(.int (1 : Int32))])) (fun _ k => XS.iload X286.here hx rfl (hb hby at_191) rfl (XS.icmpNo X286.here hx rfl (hb hby at_193) rfl (by decide) (XS.iconst X286.here hx rfl (hb hby at_196) (XS.goto X286.here hx rfl (pc0 := 197) (pc' := 201) rfl (hb hby at_197) (by decide) (by decide) k)))) ?_
              refine own_retW X286 hx ss248 (by rw [e286]; exact Nat.le_trans (Nat.le_refl _) (Nat.le_trans E249.1 K253.1)) Bd.returns hlk rfl (Or.inl ⟨rfl, (by simp), _, rfl⟩) (hb hby at_201) (by decide) (by decide) ?_
              rw [e286]
              exact ⟨rfl, N286⟩
            · refine own_st (S' := T253.setTop (mkF m 174 #[.val (.int p0), .val (.int p1), .val (.int p2), .val (.int p3), .val (.int p4), .val (.int p5), .val (.int i101), .val (.int i102), .val (.int i103), .val (.int i104), .val (.int i105), .val (.int i104), .val (.int i245), .val (.ref r246), .val (.ref r248), .val (.ref b249), .unset] [(.int i245), (.int i105)])) (fun _ k => XS.icmpNo X253.here hx rfl (hb hby at_167) rfl (flt hc280).1 (XS.iload X253.here hx rfl (hb hby at_170) rfl (XS.iload X253.here hx rfl (hb hby at_172) rfl k))) ?_
              by_cases hc288 : i105 = i245
              · refine own_st (S' := T253.setTop (mkF m 184 #[.val (.int p0), .val (.int p1), .val (.int p2), .val (.int p3), .val (.int p4), .val (.int p5), .val (.int i101), .val (.int i102), .val (.int i103), .val (.int i104), .val (.int i105), .val (.int i104), .val (.int i245), .val (.ref r246), .val (.ref r248), .val (.ref b249), .val (.int (1 : Int32))] [])) (fun _ k => XS.icmpNo X253.here hx rfl (hb hby at_174) rfl (teq hc288).2 (XS.iconst X253.here hx rfl (hb hby at_177) (XS.goto X253.here hx rfl (pc0 := 178) (pc' := 182) rfl (hb hby at_178) (by decide) (by decide) (XS.istore X253.here hx rfl (hb hby at_182) rfl (l' := #[.val (.int p0), .val (.int p1), .val (.int p2), .val (.int p3), .val (.int p4), .val (.int p5), .val (.int i101), .val (.int i102), .val (.int i103), .val (.int i104), .val (.int i105), .val (.int i104), .val (.int i245), .val (.ref r246), .val (.ref r248), .val (.ref b249), .val (.int (1 : Int32))]) rfl k)))) ?_
                refine own_st (S' := T253.setTop (mkF m 188 #[.val (.int p0), .val (.int p1), .val (.int p2), .val (.int p3), .val (.int p4), .val (.int p5), .val (.int i101), .val (.int i102), .val (.int i103), .val (.int i104), .val (.int i105), .val (.int i104), .val (.int i245), .val (.ref r246), .val (.ref r248), .val (.ref b249), .val (.int (1 : Int32))] [(.ref r248), (.ref b249)])) (fun _ k => XS.aload X253.here hx rfl (hb hby at_184) rfl rfl (XS.aload X253.here hx rfl (hb hby at_186) rfl rfl k)) ?_
                have hke : r252 = k5 := o252.elim (fun q => q.2) fun q => absurd hc254 q.1
                have Fk5 : Fld Z h253 b249 "com/example/librow/librow/QueryLexer$Token" "kind" "Lcom/example/librow/librow/QueryLexer$Kind;" (.ref k5) := hke ▸ Fk253
                have XE289 : Ext h246 h253 := (own_xk XE250 K253 (allS (Nat.le_trans E248.1 (Nat.le_of_eq g249.symm)) all0))
                have G290 : own_Str Z h253 r246 (own_txt i102 i104 i105) := (Y246.ext XE289)
                have XE291 : Ext h248 h253 := (own_xk E249 K253 (allS (Nat.le_of_eq g249.symm) all0))
                have G292 : own_Str Z h253 r248 (own_txt i103 i104 i245) := (Y248.ext XE291)
                have XO293 : Old Z n0 h253 := (XO251.keep K253 (allS (Nat.le_trans Z0 (Nat.le_trans (Nat.le_trans E246.1 E248.1) (Nat.le_of_eq g249.symm))) all0))
                have A295 : Exa Z h253 b249 "com/example/librow/librow/QueryLexer$Token" := (A249.keep K253)
                obtain ⟨cq294, kq294, q294a, q294b, q294c⟩ := isOf hz248 e253 A295
                obtain ⟨_, _, ⟨T294, L294, k294, n294⟩, -, X294, ⟨Lc294, hQ294, l294, y294, z294⟩, st294⟩ := X253.virtualBack hx (y := (⟨"com/example/librow/librow/QueryLexer$Token", "isSymbol", "(Ljava/lang/String;)Z"⟩ : MethodName)) (z := (⟨"com/example/librow/librow/QueryLexer$Token", "isSymbol", "(Ljava/lang/String;)Z"⟩ : MethodName)) ho248 (mvT hz248 (hw _ own_w64)) (mvT hz248 (hw _ own_w65)) (notFace_of_selects (args := #[]) (mvT hz248 (hw _ own_w67))) (mvT hz248 (hw _ own_w67)) (mvT hz248 (hw _ own_w66)) (by decide) (backOf (W := 0) (own_rm_isy l Z a0 hw G1 S1 P1 hCH hCW k0 k1 k2 k3 k4 k5 k6 B [] b249 r248 r246 (own_txt i102 i104 i105) (own_txt i103 i104 i245) h253 n0 (Nat.le_trans Z0 (Nat.le_trans (Nat.le_trans (Nat.le_trans E246.1 E248.1) E249.1) K253.1)) XO293 Fk5 Ft253 G290 G292) hz248 (hw _ own_w68) (hw _ own_w40) (by decide) (by decide)) q294a q294c (g := (mkF m 188 #[.val (.int p0), .val (.int p1), .val (.int p2), .val (.int p3), .val (.int p4), .val (.int p5), .val (.int i101), .val (.int i102), .val (.int i103), .val (.int i104), .val (.int i105), .val (.int i104), .val (.int i245), .val (.ref r246), .val (.ref r248), .val (.ref b249), .val (.int (1 : Int32))] [(.ref r248), (.ref b249)])) rfl (by rw [hml]; rfl) (Steps.refl _) (argsL := [(.ref r248)]) (rest := []) (lenOf own_pd7 rfl) rfl (by show 2 * 0 + _ ≤ _; exact Nat.le_of_eq rfl) (hb hby at_188) (fun _ _ => ⟨rfl, e253, (by decide : 9 + 0 ≤ _), (by decide : 20 + 0 ≤ _)⟩)
                dsimp only [Pt.U, Pt.locs, Pt.cells, Pt.slots] at X294 l294 y294 z294 st294 hQ294
                subst l294 y294 z294
                obtain ⟨o294, M294, e294⟩ := hQ294
                have N294 := Fr.app N253 M294
                obtain ⟨rfl, -⟩ := own_pickY o294 ((own_txt_eq (own_rem3 gi102) (own_rem3 gi103)).mpr ⟨hc255, Or.inr rfl, Or.inr hc288⟩)
                refine own_tr (S' := T294.setTop (mkF m 191 #[.val (.int p0), .val (.int p1), .val (.int p2), .val (.int p3), .val (.int p4), .val (.int p5), .val (.int i101), .val (.int i102), .val (.int i103), .val (.int i104), .val (.int i105), .val (.int i104), .val (.int i245), .val (.ref r246), .val (.ref r248), .val (.ref b249), .val (.int (1 : Int32))] [(.int (1 : Int32))])) st294 ?_
                refine own_st (S' := T294.setTop (mkF m 201 #[.val (.int p0), .val (.int p1), .val (.int p2), .val (.int p3), .val (.int p4), .val (.int p5), .val (.int i101), .val (.int i102), .val (.int i103), .val (.int i104), .val (.int i105), .val (.int i104), .val (.int i245), .val (.ref r246), .val (.ref r248), .val (.ref b249), .val (.int (1 : Int32))] [(.int (1 : Int32))])) (fun _ k => XS.iload X294.here hx rfl (hb hby at_191) rfl (XS.icmpNo X294.here hx rfl (hb hby at_193) rfl (by decide) (XS.iconst X294.here hx rfl (hb hby at_196) (XS.goto X294.here hx rfl (pc0 := 197) (pc' := 201) rfl (hb hby at_197) (by decide) (by decide) k)))) ?_
                refine own_retW X294 hx ss248 (by rw [e294]; exact Nat.le_trans (Nat.le_refl _) (Nat.le_trans E249.1 K253.1)) Bd.returns hlk rfl (Or.inl ⟨rfl, (by simp), _, rfl⟩) (hb hby at_201) (by decide) (by decide) ?_
                rw [e294]
                exact ⟨rfl, N294⟩
              · refine own_st (S' := T253.setTop (mkF m 186 #[.val (.int p0), .val (.int p1), .val (.int p2), .val (.int p3), .val (.int p4), .val (.int p5), .val (.int i101), .val (.int i102), .val (.int i103), .val (.int i104), .val (.int i105), .val (.int i104), .val (.int i245), .val (.ref r246), .val (.ref r248), .val (.ref b249), .val (.int (0 : Int32))] [(.ref b249)])) (fun _ k => XS.icmpYes X253.here hx rfl (pc0 := 174) (pc' := 181) rfl (hb hby at_174) rfl (feq hc288).2 (by decide) (by decide) (XS.iconst X253.here hx rfl (hb hby at_181) (XS.istore X253.here hx rfl (hb hby at_182) rfl (l' := #[.val (.int p0), .val (.int p1), .val (.int p2), .val (.int p3), .val (.int p4), .val (.int p5), .val (.int i101), .val (.int i102), .val (.int i103), .val (.int i104), .val (.int i105), .val (.int i104), .val (.int i245), .val (.ref r246), .val (.ref r248), .val (.ref b249), .val (.int (0 : Int32))]) rfl (XS.aload X253.here hx rfl (hb hby at_184) rfl rfl k)))) ?_
                refine own_st (S' := T253.setTop (mkF m 188 #[.val (.int p0), .val (.int p1), .val (.int p2), .val (.int p3), .val (.int p4), .val (.int p5), .val (.int i101), .val (.int i102), .val (.int i103), .val (.int i104), .val (.int i105), .val (.int i104), .val (.int i245), .val (.ref r246), .val (.ref r248), .val (.ref b249), .val (.int (0 : Int32))] [(.ref r248), (.ref b249)])) (fun _ k => XS.aload X253.here hx rfl (hb hby at_186) rfl rfl k) ?_
                have hke : r252 = k5 := o252.elim (fun q => q.2) fun q => absurd hc254 q.1
                have Fk5 : Fld Z h253 b249 "com/example/librow/librow/QueryLexer$Token" "kind" "Lcom/example/librow/librow/QueryLexer$Kind;" (.ref k5) := hke ▸ Fk253
                have XE296 : Ext h246 h253 := (own_xk XE250 K253 (allS (Nat.le_trans E248.1 (Nat.le_of_eq g249.symm)) all0))
                have G297 : own_Str Z h253 r246 (own_txt i102 i104 i105) := (Y246.ext XE296)
                have XE298 : Ext h248 h253 := (own_xk E249 K253 (allS (Nat.le_of_eq g249.symm) all0))
                have G299 : own_Str Z h253 r248 (own_txt i103 i104 i245) := (Y248.ext XE298)
                have XO300 : Old Z n0 h253 := (XO251.keep K253 (allS (Nat.le_trans Z0 (Nat.le_trans (Nat.le_trans E246.1 E248.1) (Nat.le_of_eq g249.symm))) all0))
                have A302 : Exa Z h253 b249 "com/example/librow/librow/QueryLexer$Token" := (A249.keep K253)
                obtain ⟨cq301, kq301, q301a, q301b, q301c⟩ := isOf hz248 e253 A302
                obtain ⟨_, _, ⟨T301, L301, k301, n301⟩, -, X301, ⟨Lc301, hQ301, l301, y301, z301⟩, st301⟩ := X253.virtualBack hx (y := (⟨"com/example/librow/librow/QueryLexer$Token", "isSymbol", "(Ljava/lang/String;)Z"⟩ : MethodName)) (z := (⟨"com/example/librow/librow/QueryLexer$Token", "isSymbol", "(Ljava/lang/String;)Z"⟩ : MethodName)) ho248 (mvT hz248 (hw _ own_w64)) (mvT hz248 (hw _ own_w65)) (notFace_of_selects (args := #[]) (mvT hz248 (hw _ own_w67))) (mvT hz248 (hw _ own_w67)) (mvT hz248 (hw _ own_w66)) (by decide) (backOf (W := 0) (own_rm_isy l Z a0 hw G1 S1 P1 hCH hCW k0 k1 k2 k3 k4 k5 k6 B [] b249 r248 r246 (own_txt i102 i104 i105) (own_txt i103 i104 i245) h253 n0 (Nat.le_trans Z0 (Nat.le_trans (Nat.le_trans (Nat.le_trans E246.1 E248.1) E249.1) K253.1)) XO300 Fk5 Ft253 G297 G299) hz248 (hw _ own_w68) (hw _ own_w40) (by decide) (by decide)) q301a q301c (g := (mkF m 188 #[.val (.int p0), .val (.int p1), .val (.int p2), .val (.int p3), .val (.int p4), .val (.int p5), .val (.int i101), .val (.int i102), .val (.int i103), .val (.int i104), .val (.int i105), .val (.int i104), .val (.int i245), .val (.ref r246), .val (.ref r248), .val (.ref b249), .val (.int (0 : Int32))] [(.ref r248), (.ref b249)])) rfl (by rw [hml]; rfl) (Steps.refl _) (argsL := [(.ref r248)]) (rest := []) (lenOf own_pd7 rfl) rfl (by show 2 * 0 + _ ≤ _; exact Nat.le_of_eq rfl) (hb hby at_188) (fun _ _ => ⟨rfl, e253, (by decide : 9 + 0 ≤ _), (by decide : 20 + 0 ≤ _)⟩)
                dsimp only [Pt.U, Pt.locs, Pt.cells, Pt.slots] at X301 l301 y301 z301 st301 hQ301
                subst l301 y301 z301
                obtain ⟨o301, M301, e301⟩ := hQ301
                have N301 := Fr.app N253 M301
                obtain ⟨rfl, -⟩ := own_pickN o301 (fun q => ((own_txt_eq (own_rem3 gi102) (own_rem3 gi103)).mp q).2.2.elim hc280 hc288)
                refine own_tr (S' := T301.setTop (mkF m 191 #[.val (.int p0), .val (.int p1), .val (.int p2), .val (.int p3), .val (.int p4), .val (.int p5), .val (.int i101), .val (.int i102), .val (.int i103), .val (.int i104), .val (.int i105), .val (.int i104), .val (.int i245), .val (.ref r246), .val (.ref r248), .val (.ref b249), .val (.int (0 : Int32))] [(.int (0 : Int32))])) st301 ?_
                refine own_st (S' := T301.setTop (mkF m 201 #[.val (.int p0), .val (.int p1), .val (.int p2), .val (.int p3), .val (.int p4), .val (.int p5), .val (.int i101), .val (.int i102), .val (.int i103), .val (.int i104), .val (.int i105), .val (.int i104), .val (.int i245), .val (.ref r246), .val (.ref r248), .val (.ref b249), .val (.int (0 : Int32))] [(.int (1 : Int32))])) (fun _ k => XS.iload X301.here hx rfl (hb hby at_191) rfl (XS.icmpNo X301.here hx rfl (hb hby at_193) rfl (by decide) (XS.iconst X301.here hx rfl (hb hby at_196) (XS.goto X301.here hx rfl (pc0 := 197) (pc' := 201) rfl (hb hby at_197) (by decide) (by decide) k)))) ?_
                refine own_retW X301 hx ss248 (by rw [e301]; exact Nat.le_trans (Nat.le_refl _) (Nat.le_trans E249.1 K253.1)) Bd.returns hlk rfl (Or.inl ⟨rfl, (by simp), _, rfl⟩) (hb hby at_201) (by decide) (by decide) ?_
                rw [e301]
                exact ⟨rfl, N301⟩
        · refine own_st (S' := T253.setTop (mkF m 186 #[.val (.int p0), .val (.int p1), .val (.int p2), .val (.int p3), .val (.int p4), .val (.int p5), .val (.int i101), .val (.int i102), .val (.int i103), .val (.int i104), .val (.int i105), .val (.int i104), .val (.int i245), .val (.ref r246), .val (.ref r248), .val (.ref b249), .val (.int (0 : Int32))] [(.ref b249)])) (fun _ k => XS.icmpYes X253.here hx rfl (pc0 := 148) (pc' := 181) rfl (hb hby at_148) rfl (feq hc255).2 (by decide) (by decide) (XS.iconst X253.here hx rfl (hb hby at_181) (XS.istore X253.here hx rfl (hb hby at_182) rfl (l' := #[.val (.int p0), .val (.int p1), .val (.int p2), .val (.int p3), .val (.int p4), .val (.int p5), .val (.int i101), .val (.int i102), .val (.int i103), .val (.int i104), .val (.int i105), .val (.int i104), .val (.int i245), .val (.ref r246), .val (.ref r248), .val (.ref b249), .val (.int (0 : Int32))]) rfl (XS.aload X253.here hx rfl (hb hby at_184) rfl rfl k)))) ?_
          refine own_st (S' := T253.setTop (mkF m 188 #[.val (.int p0), .val (.int p1), .val (.int p2), .val (.int p3), .val (.int p4), .val (.int p5), .val (.int i101), .val (.int i102), .val (.int i103), .val (.int i104), .val (.int i105), .val (.int i104), .val (.int i245), .val (.ref r246), .val (.ref r248), .val (.ref b249), .val (.int (0 : Int32))] [(.ref r248), (.ref b249)])) (fun _ k => XS.aload X253.here hx rfl (hb hby at_186) rfl rfl k) ?_
          have hke : r252 = k5 := o252.elim (fun q => q.2) fun q => absurd hc254 q.1
          have Fk5 : Fld Z h253 b249 "com/example/librow/librow/QueryLexer$Token" "kind" "Lcom/example/librow/librow/QueryLexer$Kind;" (.ref k5) := hke ▸ Fk253
          have XE303 : Ext h246 h253 := (own_xk XE250 K253 (allS (Nat.le_trans E248.1 (Nat.le_of_eq g249.symm)) all0))
          have G304 : own_Str Z h253 r246 (own_txt i102 i104 i105) := (Y246.ext XE303)
          have XE305 : Ext h248 h253 := (own_xk E249 K253 (allS (Nat.le_of_eq g249.symm) all0))
          have G306 : own_Str Z h253 r248 (own_txt i103 i104 i245) := (Y248.ext XE305)
          have XO307 : Old Z n0 h253 := (XO251.keep K253 (allS (Nat.le_trans Z0 (Nat.le_trans (Nat.le_trans E246.1 E248.1) (Nat.le_of_eq g249.symm))) all0))
          have A309 : Exa Z h253 b249 "com/example/librow/librow/QueryLexer$Token" := (A249.keep K253)
          obtain ⟨cq308, kq308, q308a, q308b, q308c⟩ := isOf hz248 e253 A309
          obtain ⟨_, _, ⟨T308, L308, k308, n308⟩, -, X308, ⟨Lc308, hQ308, l308, y308, z308⟩, st308⟩ := X253.virtualBack hx (y := (⟨"com/example/librow/librow/QueryLexer$Token", "isSymbol", "(Ljava/lang/String;)Z"⟩ : MethodName)) (z := (⟨"com/example/librow/librow/QueryLexer$Token", "isSymbol", "(Ljava/lang/String;)Z"⟩ : MethodName)) ho248 (mvT hz248 (hw _ own_w64)) (mvT hz248 (hw _ own_w65)) (notFace_of_selects (args := #[]) (mvT hz248 (hw _ own_w67))) (mvT hz248 (hw _ own_w67)) (mvT hz248 (hw _ own_w66)) (by decide) (backOf (W := 0) (own_rm_isy l Z a0 hw G1 S1 P1 hCH hCW k0 k1 k2 k3 k4 k5 k6 B [] b249 r248 r246 (own_txt i102 i104 i105) (own_txt i103 i104 i245) h253 n0 (Nat.le_trans Z0 (Nat.le_trans (Nat.le_trans (Nat.le_trans E246.1 E248.1) E249.1) K253.1)) XO307 Fk5 Ft253 G304 G306) hz248 (hw _ own_w68) (hw _ own_w40) (by decide) (by decide)) q308a q308c (g := (mkF m 188 #[.val (.int p0), .val (.int p1), .val (.int p2), .val (.int p3), .val (.int p4), .val (.int p5), .val (.int i101), .val (.int i102), .val (.int i103), .val (.int i104), .val (.int i105), .val (.int i104), .val (.int i245), .val (.ref r246), .val (.ref r248), .val (.ref b249), .val (.int (0 : Int32))] [(.ref r248), (.ref b249)])) rfl (by rw [hml]; rfl) (Steps.refl _) (argsL := [(.ref r248)]) (rest := []) (lenOf own_pd7 rfl) rfl (by show 2 * 0 + _ ≤ _; exact Nat.le_of_eq rfl) (hb hby at_188) (fun _ _ => ⟨rfl, e253, (by decide : 9 + 0 ≤ _), (by decide : 20 + 0 ≤ _)⟩)
          dsimp only [Pt.U, Pt.locs, Pt.cells, Pt.slots] at X308 l308 y308 z308 st308 hQ308
          subst l308 y308 z308
          obtain ⟨o308, M308, e308⟩ := hQ308
          have N308 := Fr.app N253 M308
          obtain ⟨rfl, -⟩ := own_pickN o308 (fun q => hc255 ((own_txt_eq (own_rem3 gi102) (own_rem3 gi103)).mp q).1)
          refine own_tr (S' := T308.setTop (mkF m 191 #[.val (.int p0), .val (.int p1), .val (.int p2), .val (.int p3), .val (.int p4), .val (.int p5), .val (.int i101), .val (.int i102), .val (.int i103), .val (.int i104), .val (.int i105), .val (.int i104), .val (.int i245), .val (.ref r246), .val (.ref r248), .val (.ref b249), .val (.int (0 : Int32))] [(.int (0 : Int32))])) st308 ?_
          refine own_st (S' := T308.setTop (mkF m 201 #[.val (.int p0), .val (.int p1), .val (.int p2), .val (.int p3), .val (.int p4), .val (.int p5), .val (.int i101), .val (.int i102), .val (.int i103), .val (.int i104), .val (.int i105), .val (.int i104), .val (.int i245), .val (.ref r246), .val (.ref r248), .val (.ref b249), .val (.int (0 : Int32))] [(.int (1 : Int32))])) (fun _ k => XS.iload X308.here hx rfl (hb hby at_191) rfl (XS.icmpNo X308.here hx rfl (hb hby at_193) rfl (by decide) (XS.iconst X308.here hx rfl (hb hby at_196) (XS.goto X308.here hx rfl (pc0 := 197) (pc' := 201) rfl (hb hby at_197) (by decide) (by decide) k)))) ?_
          refine own_retW X308 hx ss248 (by rw [e308]; exact Nat.le_trans (Nat.le_refl _) (Nat.le_trans E249.1 K253.1)) Bd.returns hlk rfl (Or.inl ⟨rfl, (by simp), _, rfl⟩) (hb hby at_201) (by decide) (by decide) ?_
          rw [e308]
          exact ⟨rfl, N308⟩
      · refine own_st (S' := T253.setTop (mkF m 186 #[.val (.int p0), .val (.int p1), .val (.int p2), .val (.int p3), .val (.int p4), .val (.int p5), .val (.int i101), .val (.int i102), .val (.int i103), .val (.int i104), .val (.int i105), .val (.int i104), .val (.int i245), .val (.ref r246), .val (.ref r248), .val (.ref b249), .val (.int (0 : Int32))] [(.ref b249)])) (fun _ k => XS.icmpYes X253.here hx rfl (pc0 := 141) (pc' := 181) rfl (hb hby at_141) rfl (feq hc254).2 (by decide) (by decide) (XS.iconst X253.here hx rfl (hb hby at_181) (XS.istore X253.here hx rfl (hb hby at_182) rfl (l' := #[.val (.int p0), .val (.int p1), .val (.int p2), .val (.int p3), .val (.int p4), .val (.int p5), .val (.int i101), .val (.int i102), .val (.int i103), .val (.int i104), .val (.int i105), .val (.int i104), .val (.int i245), .val (.ref r246), .val (.ref r248), .val (.ref b249), .val (.int (0 : Int32))]) rfl (XS.aload X253.here hx rfl (hb hby at_184) rfl rfl k)))) ?_
        refine own_st (S' := T253.setTop (mkF m 188 #[.val (.int p0), .val (.int p1), .val (.int p2), .val (.int p3), .val (.int p4), .val (.int p5), .val (.int i101), .val (.int i102), .val (.int i103), .val (.int i104), .val (.int i105), .val (.int i104), .val (.int i245), .val (.ref r246), .val (.ref r248), .val (.ref b249), .val (.int (0 : Int32))] [(.ref r248), (.ref b249)])) (fun _ k => XS.aload X253.here hx rfl (hb hby at_186) rfl rfl k) ?_
        have hne : r252 ≠ k5 := o252.elim (fun q => absurd q.1 hc254) fun q => q.2
        have XO310 : Old Z n0 h253 := (XO251.keep K253 (allS (Nat.le_trans Z0 (Nat.le_trans (Nat.le_trans E246.1 E248.1) (Nat.le_of_eq g249.symm))) all0))
        have A312 : Exa Z h253 b249 "com/example/librow/librow/QueryLexer$Token" := (A249.keep K253)
        obtain ⟨cq311, kq311, q311a, q311b, q311c⟩ := isOf hz248 e253 A312
        obtain ⟨_, _, ⟨T311, L311, k311, n311⟩, -, X311, ⟨Lc311, hQ311, l311, y311, z311⟩, st311⟩ := X253.virtualBack hx (y := (⟨"com/example/librow/librow/QueryLexer$Token", "isSymbol", "(Ljava/lang/String;)Z"⟩ : MethodName)) (z := (⟨"com/example/librow/librow/QueryLexer$Token", "isSymbol", "(Ljava/lang/String;)Z"⟩ : MethodName)) ho248 (mvT hz248 (hw _ own_w64)) (mvT hz248 (hw _ own_w65)) (notFace_of_selects (args := #[]) (mvT hz248 (hw _ own_w67))) (mvT hz248 (hw _ own_w67)) (mvT hz248 (hw _ own_w66)) (by decide) (backOf (W := 0) (own_rm_isn l Z a0 hw G1 S1 P1 hCH hCW k0 k1 k2 k3 k4 k5 k6 B [] b249 r248 r252 h253 n0 (Nat.le_trans Z0 (Nat.le_trans (Nat.le_trans (Nat.le_trans E246.1 E248.1) E249.1) K253.1)) XO310 Fk253 hne) hz248 (hw _ own_w68) (hw _ own_w40) (by decide) (by decide)) q311a q311c (g := (mkF m 188 #[.val (.int p0), .val (.int p1), .val (.int p2), .val (.int p3), .val (.int p4), .val (.int p5), .val (.int i101), .val (.int i102), .val (.int i103), .val (.int i104), .val (.int i105), .val (.int i104), .val (.int i245), .val (.ref r246), .val (.ref r248), .val (.ref b249), .val (.int (0 : Int32))] [(.ref r248), (.ref b249)])) rfl (by rw [hml]; rfl) (Steps.refl _) (argsL := [(.ref r248)]) (rest := []) (lenOf own_pd7 rfl) rfl (by show 2 * 0 + _ ≤ _; exact Nat.le_of_eq rfl) (hb hby at_188) (fun _ _ => ⟨rfl, e253, (by decide : 9 + 0 ≤ _), (by decide : 20 + 0 ≤ _)⟩)
        dsimp only [Pt.U, Pt.locs, Pt.cells, Pt.slots] at X311 l311 y311 z311 st311 hQ311
        subst l311 y311 z311
        obtain ⟨rfl, M311, e311⟩ := hQ311
        have N311 := Fr.app N253 M311
        refine own_tr (S' := T311.setTop (mkF m 191 #[.val (.int p0), .val (.int p1), .val (.int p2), .val (.int p3), .val (.int p4), .val (.int p5), .val (.int i101), .val (.int i102), .val (.int i103), .val (.int i104), .val (.int i105), .val (.int i104), .val (.int i245), .val (.ref r246), .val (.ref r248), .val (.ref b249), .val (.int (0 : Int32))] [(.int (0 : Int32))])) st311 ?_
        refine own_st (S' := T311.setTop (mkF m 201 #[.val (.int p0), .val (.int p1), .val (.int p2), .val (.int p3), .val (.int p4), .val (.int p5), .val (.int i101), .val (.int i102), .val (.int i103), .val (.int i104), .val (.int i105), .val (.int i104), .val (.int i245), .val (.ref r246), .val (.ref r248), .val (.ref b249), .val (.int (0 : Int32))] [(.int (1 : Int32))])) (fun _ k => XS.iload X311.here hx rfl (hb hby at_191) rfl (XS.icmpNo X311.here hx rfl (hb hby at_193) rfl (by decide) (XS.iconst X311.here hx rfl (hb hby at_196) (XS.goto X311.here hx rfl (pc0 := 197) (pc' := 201) rfl (hb hby at_197) (by decide) (by decide) k)))) ?_
        refine own_retW X311 hx ss248 (by rw [e311]; exact Nat.le_trans (Nat.le_refl _) (Nat.le_trans E249.1 K253.1)) Bd.returns hlk rfl (Or.inl ⟨rfl, (by simp), _, rfl⟩) (hb hby at_201) (by decide) (by decide) ?_
        rw [e311]
        exact ⟨rfl, N311⟩
    · refine own_st (S' := s₁.setTop (mkF m 96 #[.val (.int p0), .val (.int p1), .val (.int p2), .val (.int p3), .val (.int p4), .val (.int p5), .val (.int i101), .val (.int i102), .val (.int i103), .val (.int i104), .val (.int i105), .val (.int i104), .val (.int i105), .unset, .unset, .unset, .unset] [])) (fun _ k => XS.ifNo X0.here hx rfl (hb hby at_77) rfl ((if0 _ _).trans (feq hc244).1) (XS.iload X0.here hx rfl (hb hby at_80) rfl (XS.goto X0.here hx rfl (pc0 := 82) (pc' := 94) rfl (hb hby at_82) (by decide) (by decide) (XS.istore X0.here hx rfl (hb hby at_94) rfl (l' := #[.val (.int p0), .val (.int p1), .val (.int p2), .val (.int p3), .val (.int p4), .val (.int p5), .val (.int i101), .val (.int i102), .val (.int i103), .val (.int i104), .val (.int i105), .val (.int i104), .val (.int i105), .unset, .unset, .unset, .unset]) rfl k)))) ?_
      refine own_st (S' := s₁.setTop (mkF m 102 #[.val (.int p0), .val (.int p1), .val (.int p2), .val (.int p3), .val (.int p4), .val (.int p5), .val (.int i101), .val (.int i102), .val (.int i103), .val (.int i104), .val (.int i105), .val (.int i104), .val (.int i105), .unset, .unset, .unset, .unset] [(.int i105), (.int i104), (.int i102)])) (fun _ k => XS.iload X0.here hx rfl (hb hby at_96) rfl (XS.iload X0.here hx rfl (hb hby at_98) rfl (XS.iload X0.here hx rfl (hb hby at_100) rfl k))) ?_
      obtain ⟨_, _, ⟨T313, L313, k313, n313⟩, -, X313, sn313, sg313, ⟨Lc313, hQ313, l313, y313, z313⟩, st313⟩ := callSS X0 hx (y := (⟨"com/example/librow/librow/TokenIsSymbolPinLaw", "str", "(ICC)Ljava/lang/String;"⟩ : MethodName)) hown (mvT hZ (hw _ own_w1)) (mvT hZ (hw _ own_w2)) (mvT hZ (hw _ own_w3)) (mvT hZ (hw _ own_w4)) (by decide) (own_backS (W := 0) (own_rm_str l Z a0 hw G1 S1 P1 hCH hCW k0 k1 k2 k3 k4 k5 k6 B [] i102 i104 i105 h0 n0 (Nat.le_trans Z0 (Nat.le_refl _)) XO (own_chr gi104) (own_chr gi105)) hZ (hw _ own_w4) (hw _ own_w3) (by decide) (by decide)) (g := (mkF m 102 #[.val (.int p0), .val (.int p1), .val (.int p2), .val (.int p3), .val (.int p4), .val (.int p5), .val (.int i101), .val (.int i102), .val (.int i103), .val (.int i104), .val (.int i105), .val (.int i104), .val (.int i105), .unset, .unset, .unset, .unset] [(.int i105), (.int i104), (.int i102)])) rfl (by rw [hml]; rfl) (argsL := [(.int i102), (.int i104), (.int i105)]) (rest := []) (lenOf own_pd4 rfl) rfl (by show 2 * 0 + _ ≤ _; exact Nat.le_of_eq rfl) (hb hby at_102) (fun _ hv => ⟨rfl, e0, (by decide : 0 + 4 ≤ _), (by decide : 0 + 8 ≤ _), hLS.warm hv⟩)
      dsimp only [Pt.U, Pt.locs, Pt.cells, Pt.slots] at X313 l313 y313 z313 st313 hQ313 sn313 sg313
      subst l313 y313 z313
      obtain ⟨XX313, ss313, hz313, ho313⟩ := rebS sn0 (n1 := s₁.heap.size) (by rw [e0]; exact Nat.le_trans (Nat.zero_le _) (Nat.le_refl _)) X313 sn313 sg313 hZ hown
      obtain ⟨r313, rfl, M313, E313, g313, Y313, LS313⟩ := hQ313
      have N313 := Fr.app N0 M313
      obtain ⟨h313, e313⟩ : ∃ z, T313.heap = z := ⟨_, rfl⟩
      rw [e313] at E313 LS313 ss313 Y313
      refine own_tr (S' := T313.setTop (mkF m 105 #[.val (.int p0), .val (.int p1), .val (.int p2), .val (.int p3), .val (.int p4), .val (.int p5), .val (.int i101), .val (.int i102), .val (.int i103), .val (.int i104), .val (.int i105), .val (.int i104), .val (.int i105), .unset, .unset, .unset, .unset] [(.ref r313)])) st313 ?_
      refine own_st (S' := T313.setTop (mkF m 113 #[.val (.int p0), .val (.int p1), .val (.int p2), .val (.int p3), .val (.int p4), .val (.int p5), .val (.int i101), .val (.int i102), .val (.int i103), .val (.int i104), .val (.int i105), .val (.int i104), .val (.int i105), .val (.ref r313), .unset, .unset, .unset] [(.int i105), (.int i104), (.int i103)])) (fun _ k => XS.astore XX313.here hx rfl (hb hby at_105) rfl rfl (l' := #[.val (.int p0), .val (.int p1), .val (.int p2), .val (.int p3), .val (.int p4), .val (.int p5), .val (.int i101), .val (.int i102), .val (.int i103), .val (.int i104), .val (.int i105), .val (.int i104), .val (.int i105), .val (.ref r313), .unset, .unset, .unset]) rfl (XS.iload XX313.here hx rfl (hb hby at_107) rfl (XS.iload XX313.here hx rfl (hb hby at_109) rfl (XS.iload XX313.here hx rfl (hb hby at_111) rfl k)))) ?_
      have XO314 : Old Z n0 h313 := (XO.ext E313)
      obtain ⟨_, _, ⟨T315, L315, k315, n315⟩, -, X315, sn315, sg315, ⟨Lc315, hQ315, l315, y315, z315⟩, st315⟩ := callSS XX313 hx (y := (⟨"com/example/librow/librow/TokenIsSymbolPinLaw", "str", "(ICC)Ljava/lang/String;"⟩ : MethodName)) ho313 (mvT hz313 (hw _ own_w1)) (mvT hz313 (hw _ own_w2)) (mvT hz313 (hw _ own_w3)) (mvT hz313 (hw _ own_w4)) (by decide) (own_backS (W := 0) (own_rm_str l Z a0 hw G1 S1 P1 hCH hCW k0 k1 k2 k3 k4 k5 k6 B [] i103 i104 i105 h313 n0 (Nat.le_trans Z0 E313.1) XO314 (own_chr gi104) (own_chr gi105)) hz313 (hw _ own_w4) (hw _ own_w3) (by decide) (by decide)) (g := (mkF m 113 #[.val (.int p0), .val (.int p1), .val (.int p2), .val (.int p3), .val (.int p4), .val (.int p5), .val (.int i101), .val (.int i102), .val (.int i103), .val (.int i104), .val (.int i105), .val (.int i104), .val (.int i105), .val (.ref r313), .unset, .unset, .unset] [(.int i105), (.int i104), (.int i103)])) rfl (by rw [hml]; rfl) (argsL := [(.int i103), (.int i104), (.int i105)]) (rest := []) (lenOf own_pd4 rfl) rfl (by show 2 * 0 + _ ≤ _; exact Nat.le_of_eq rfl) (hb hby at_113) (fun _ hv => ⟨rfl, e313, (by decide : 4 + 4 ≤ _), (by decide : 8 + 8 ≤ _), LS313.warm hv⟩)
      dsimp only [Pt.U, Pt.locs, Pt.cells, Pt.slots] at X315 l315 y315 z315 st315 hQ315 sn315 sg315
      subst l315 y315 z315
      obtain ⟨XX315, ss315, hz315, ho315⟩ := rebS ss313 (n1 := T313.heap.size) (by rw [e313]; exact Nat.le_trans (Nat.le_refl _) (Nat.le_refl _)) X315 sn315 sg315 hz313 ho313
      obtain ⟨r315, rfl, M315, E315, g315, Y315, LS315⟩ := hQ315
      have N315 := Fr.app N313 M315
      obtain ⟨h315, e315⟩ : ∃ z, T315.heap = z := ⟨_, rfl⟩
      rw [e315] at E315 LS315 ss315 Y315
      refine own_tr (S' := T315.setTop (mkF m 116 #[.val (.int p0), .val (.int p1), .val (.int p2), .val (.int p3), .val (.int p4), .val (.int p5), .val (.int i101), .val (.int i102), .val (.int i103), .val (.int i104), .val (.int i105), .val (.int i104), .val (.int i105), .val (.ref r313), .unset, .unset, .unset] [(.ref r315)])) st315 ?_
      refine own_st (S' := T315.setTop (mkF m 118 #[.val (.int p0), .val (.int p1), .val (.int p2), .val (.int p3), .val (.int p4), .val (.int p5), .val (.int i101), .val (.int i102), .val (.int i103), .val (.int i104), .val (.int i105), .val (.int i104), .val (.int i105), .val (.ref r313), .val (.ref r315), .unset, .unset] [])) (fun _ k => XS.astore XX315.here hx rfl (hb hby at_116) rfl rfl (l' := #[.val (.int p0), .val (.int p1), .val (.int p2), .val (.int p3), .val (.int p4), .val (.int p5), .val (.int i101), .val (.int i102), .val (.int i103), .val (.int i104), .val (.int i105), .val (.int i104), .val (.int i105), .val (.ref r313), .val (.ref r315), .unset, .unset]) rfl k) ?_
      obtain ⟨T316, h316, X316, e316, E316, A316, D316, -, st316⟩ := newO XX315 hx hz315 ho315 (hw _ own_w38) (hw _ own_w39) (hw _ own_w40) e315 (g := (mkF m 118 #[.val (.int p0), .val (.int p1), .val (.int p2), .val (.int p3), .val (.int p4), .val (.int p5), .val (.int i101), .val (.int i102), .val (.int i103), .val (.int i104), .val (.int i105), .val (.int i104), .val (.int i105), .val (.ref r313), .val (.ref r315), .unset, .unset] [])) rfl (hb hby at_118) (by decide) (by decide)
      obtain ⟨b316, g316⟩ : ∃ z, z = h315.size := ⟨_, rfl⟩
      rw [← g316] at A316 D316 st316
      refine own_st (S' := T316.setTop (mkF m 121 #[.val (.int p0), .val (.int p1), .val (.int p2), .val (.int p3), .val (.int p4), .val (.int p5), .val (.int i101), .val (.int i102), .val (.int i103), .val (.int i104), .val (.int i105), .val (.int i104), .val (.int i105), .val (.ref r313), .val (.ref r315), .unset, .unset] [(.ref b316)])) st316 ?_
      refine own_st (S' := T316.setTop (mkF m 124 #[.val (.int p0), .val (.int p1), .val (.int p2), .val (.int p3), .val (.int p4), .val (.int p5), .val (.int i101), .val (.int i102), .val (.int i103), .val (.int i104), .val (.int i105), .val (.int i104), .val (.int i105), .val (.ref r313), .val (.ref r315), .unset, .unset] [(.int i101), (.ref b316), (.ref b316)])) (fun _ k => XS.dup X316.here hx rfl (hb hby at_121) rfl rfl (XS.iload X316.here hx rfl (hb hby at_122) rfl k)) ?_
      have XE317 : Ext h313 h316 := (own_xt E315 E316)
      have XO318 : Old Z n0 h316 := (XO314.ext XE317)
      obtain ⟨_, _, ⟨T319, L319, k319, n319⟩, -, X319, ⟨Lc319, hQ319, l319, y319, z319⟩, st319⟩ := Jvm.LawKit.callS X316 hx (y := (⟨"com/example/librow/librow/TokenIsSymbolPinLaw", "kind", "(I)Lcom/example/librow/librow/QueryLexer$Kind;"⟩ : MethodName)) ho315 (mvT hz315 (hw _ own_w41)) (mvT hz315 (hw _ own_w42)) (mvT hz315 (hw _ own_w3)) (mvT hz315 (hw _ own_w43)) (by decide) (backOf (W := 2) (own_rm_kind l Z a0 hw G1 S1 P1 hCH hCW k0 k1 k2 k3 k4 k5 k6 B [] i101 h316 n0 (Nat.le_trans Z0 (Nat.le_trans (Nat.le_trans E313.1 E315.1) E316.1)) XO318 ) hz315 (hw _ own_w43) (hw _ own_w3) (by decide) (by decide)) (g := (mkF m 124 #[.val (.int p0), .val (.int p1), .val (.int p2), .val (.int p3), .val (.int p4), .val (.int p5), .val (.int i101), .val (.int i102), .val (.int i103), .val (.int i104), .val (.int i105), .val (.int i104), .val (.int i105), .val (.ref r313), .val (.ref r315), .unset, .unset] [(.int i101), (.ref b316), (.ref b316)])) rfl (by rw [hml]; rfl) (argsL := [(.int i101)]) (rest := [(.ref b316), (.ref b316)]) (lenOf own_pd5 rfl) rfl (by show 2 * 0 + _ ≤ _; exact Nat.le_of_eq rfl) (hb hby at_124) (fun _ _ => ⟨rfl, e316, (by decide : 9 + 0 ≤ _), (by decide : 20 + 0 ≤ _)⟩)
      dsimp only [Pt.U, Pt.locs, Pt.cells, Pt.slots] at X319 l319 y319 z319 st319 hQ319
      subst l319 y319 z319
      obtain ⟨r319, rfl, M319, e319, o319⟩ := hQ319
      have N319 := Fr.app N315 M319
      refine own_st (S' := T319.setTop (mkF m 127 #[.val (.int p0), .val (.int p1), .val (.int p2), .val (.int p3), .val (.int p4), .val (.int p5), .val (.int i101), .val (.int i102), .val (.int i103), .val (.int i104), .val (.int i105), .val (.int i104), .val (.int i105), .val (.ref r313), .val (.ref r315), .unset, .unset] [(.ref r319), (.ref b316), (.ref b316)])) st319 ?_
      refine own_st (S' := T319.setTop (mkF m 133 #[.val (.int p0), .val (.int p1), .val (.int p2), .val (.int p3), .val (.int p4), .val (.int p5), .val (.int i101), .val (.int i102), .val (.int i103), .val (.int i104), .val (.int i105), .val (.int i104), .val (.int i105), .val (.ref r313), .val (.ref r315), .unset, .unset] [(.int p5), (.int p4), (.ref r313), (.ref r319), (.ref b316), (.ref b316)])) (fun _ k => XS.aload X319.here hx rfl (hb hby at_127) rfl rfl (XS.iload X319.here hx rfl (hb hby at_129) rfl (XS.iload X319.here hx rfl (hb hby at_131) rfl k))) ?_
      obtain ⟨_, _, ⟨T320, L320, k320, n320⟩, -, X320, ⟨Lc320, hQ320, l320, y320, z320⟩, st320⟩ := X319.specialBack hx (y := (⟨"com/example/librow/librow/QueryLexer$Token", "<init>", "(Lcom/example/librow/librow/QueryLexer$Kind;Ljava/lang/String;II)V"⟩ : MethodName)) rfl ho315 (mvT hz315 (hw _ own_w47)) (mvT hz315 (hw _ own_w48)) (mvT hz315 (hw _ own_w49)) (by decide) (backOf (W := 1) (own_rm_tok l Z a0 hw G1 S1 P1 hCH hCW k0 k1 k2 k3 k4 k5 k6 B [] b316 r319 r313 p4 p5 h316 n0 (Nat.le_trans Z0 (Nat.le_trans (Nat.le_trans E313.1 E315.1) E316.1)) XO318 (Nat.le_trans Z0 (Nat.le_trans (Nat.le_trans E313.1 E315.1) (Nat.le_of_eq g316.symm))) A316 (D316 (Or.inr (hw _ own_w57)) (ty := (.object "com/example/librow/librow/QueryLexer$Kind")) (by decide)) (D316 (Or.inr (hw _ own_w59)) (ty := (.object "java/lang/String")) (by decide)) (D316 (Or.inr (hw _ own_w61)) (ty := .int) (by decide)) (D316 (Or.inr (hw _ own_w63)) (ty := .int) (by decide))) hz315 (hw _ own_w49) (hw _ own_w40) (by decide) (by decide)) (g := (mkF m 133 #[.val (.int p0), .val (.int p1), .val (.int p2), .val (.int p3), .val (.int p4), .val (.int p5), .val (.int i101), .val (.int i102), .val (.int i103), .val (.int i104), .val (.int i105), .val (.int i104), .val (.int i105), .val (.ref r313), .val (.ref r315), .unset, .unset] [(.int p5), (.int p4), (.ref r313), (.ref r319), (.ref b316), (.ref b316)])) rfl (by rw [hml]; rfl) (Steps.refl _) (a := b316) (argsL := [(.ref r319), (.ref r313), (.int p4), (.int p5)]) (rest := [(.ref b316)]) (lenOf own_pd6 rfl) rfl (by show 2 * 0 + _ ≤ _; exact Nat.le_of_eq rfl) (hb hby at_133) (fun _ _ => ⟨rfl, e319, (by decide : 9 + 0 ≤ _), (by decide : 20 + 0 ≤ _)⟩)
      dsimp only [Pt.U, Pt.locs, Pt.cells, Pt.slots] at X320 l320 y320 z320 st320 hQ320
      subst l320 y320 z320
      obtain ⟨rfl, M320, K320, Fk320, Ft320⟩ := hQ320
      have N320 := Fr.app N319 M320
      obtain ⟨h320, e320⟩ : ∃ z, T320.heap = z := ⟨_, rfl⟩
      rw [e320] at K320 Fk320 Ft320
      refine own_tr (S' := T320.setTop (mkF m 136 #[.val (.int p0), .val (.int p1), .val (.int p2), .val (.int p3), .val (.int p4), .val (.int p5), .val (.int i101), .val (.int i102), .val (.int i103), .val (.int i104), .val (.int i105), .val (.int i104), .val (.int i105), .val (.ref r313), .val (.ref r315), .unset, .unset] [(.ref b316)])) st320 ?_
      refine own_st (S' := T320.setTop (mkF m 141 #[.val (.int p0), .val (.int p1), .val (.int p2), .val (.int p3), .val (.int p4), .val (.int p5), .val (.int i101), .val (.int i102), .val (.int i103), .val (.int i104), .val (.int i105), .val (.int i104), .val (.int i105), .val (.ref r313), .val (.ref r315), .val (.ref b316), .unset] [(.int (5 : Int32)), (.int i101)])) (fun _ k => XS.astore X320.here hx rfl (hb hby at_136) rfl rfl (l' := #[.val (.int p0), .val (.int p1), .val (.int p2), .val (.int p3), .val (.int p4), .val (.int p5), .val (.int i101), .val (.int i102), .val (.int i103), .val (.int i104), .val (.int i105), .val (.int i104), .val (.int i105), .val (.ref r313), .val (.ref r315), .val (.ref b316), .unset]) rfl (XS.iload X320.here hx rfl (hb hby at_138) rfl (XS.iconst X320.here hx rfl (hb hby at_140) k))) ?_
      by_cases hc321 : i101 = (5 : Int32)
      · refine own_st (S' := T320.setTop (mkF m 148 #[.val (.int p0), .val (.int p1), .val (.int p2), .val (.int p3), .val (.int p4), .val (.int p5), .val (.int i101), .val (.int i102), .val (.int i103), .val (.int i104), .val (.int i105), .val (.int i104), .val (.int i105), .val (.ref r313), .val (.ref r315), .val (.ref b316), .unset] [(.int i103), (.int i102)])) (fun _ k => XS.icmpNo X320.here hx rfl (hb hby at_141) rfl (teq hc321).2 (XS.iload X320.here hx rfl (hb hby at_144) rfl (XS.iload X320.here hx rfl (hb hby at_146) rfl k))) ?_
        by_cases hc322 : i102 = i103
        · refine own_st (S' := T320.setTop (mkF m 154 #[.val (.int p0), .val (.int p1), .val (.int p2), .val (.int p3), .val (.int p4), .val (.int p5), .val (.int i101), .val (.int i102), .val (.int i103), .val (.int i104), .val (.int i105), .val (.int i104), .val (.int i105), .val (.ref r313), .val (.ref r315), .val (.ref b316), .unset] [(.int (1 : Int32)), (.int i102)])) (fun _ k => XS.icmpNo X320.here hx rfl (hb hby at_148) rfl (teq hc322).2 (XS.iload X320.here hx rfl (hb hby at_151) rfl (XS.iconst X320.here hx rfl (hb hby at_153) k))) ?_
          by_cases hc323 : i102 < (1 : Int32)
          · refine own_st (S' := T320.setTop (mkF m 167 #[.val (.int p0), .val (.int p1), .val (.int p2), .val (.int p3), .val (.int p4), .val (.int p5), .val (.int i101), .val (.int i102), .val (.int i103), .val (.int i104), .val (.int i105), .val (.int i104), .val (.int i105), .val (.ref r313), .val (.ref r315), .val (.ref b316), .unset] [(.int (2 : Int32)), (.int i102)])) (fun _ k => XS.icmpYes X320.here hx rfl (pc0 := 154) (pc' := 164) rfl (hb hby at_154) rfl (tlt hc323).1 (by decide) (by decide) (XS.iload X320.here hx rfl (hb hby at_164) rfl (XS.iconst X320.here hx rfl (hb hby at_166) k))) ?_
            by_cases hc324 : i102 < (2 : Int32)
            · refine own_st (S' := T320.setTop (mkF m 184 #[.val (.int p0), .val (.int p1), .val (.int p2), .val (.int p3), .val (.int p4), .val (.int p5), .val (.int i101), .val (.int i102), .val (.int i103), .val (.int i104), .val (.int i105), .val (.int i104), .val (.int i105), .val (.ref r313), .val (.ref r315), .val (.ref b316), .val (.int (1 : Int32))] [])) (fun _ k => XS.icmpYes X320.here hx rfl (pc0 := 167) (pc' := 177) rfl (hb hby at_167) rfl (tlt hc324).1 (by decide) (by decide) (XS.iconst X320.here hx rfl (hb hby at_177) (XS.goto X320.here hx rfl (pc0 := 178) (pc' := 182) rfl (hb hby at_178) (by decide) (by decide) (XS.istore X320.here hx rfl (hb hby at_182) rfl (l' := #[.val (.int p0), .val (.int p1), .val (.int p2), .val (.int p3), .val (.int p4), .val (.int p5), .val (.int i101), .val (.int i102), .val (.int i103), .val (.int i104), .val (.int i105), .val (.int i104), .val (.int i105), .val (.ref r313), .val (.ref r315), .val (.ref b316), .val (.int (1 : Int32))]) rfl k)))) ?_
              refine own_st (S' := T320.setTop (mkF m 188 #[.val (.int p0), .val (.int p1), .val (.int p2), .val (.int p3), .val (.int p4), .val (.int p5), .val (.int i101), .val (.int i102), .val (.int i103), .val (.int i104), .val (.int i105), .val (.int i104), .val (.int i105), .val (.ref r313), .val (.ref r315), .val (.ref b316), .val (.int (1 : Int32))] [(.ref r315), (.ref b316)])) (fun _ k => XS.aload X320.here hx rfl (hb hby at_184) rfl rfl (XS.aload X320.here hx rfl (hb hby at_186) rfl rfl k)) ?_
              have hke : r319 = k5 := o319.elim (fun q => q.2) fun q => absurd hc321 q.1
              have Fk5 : Fld Z h320 b316 "com/example/librow/librow/QueryLexer$Token" "kind" "Lcom/example/librow/librow/QueryLexer$Kind;" (.ref k5) := hke ▸ Fk320
              have XE325 : Ext h313 h320 := (own_xk XE317 K320 (allS (Nat.le_trans E315.1 (Nat.le_of_eq g316.symm)) all0))
              have G326 : own_Str Z h320 r313 (own_txt i102 i104 i105) := (Y313.ext XE325)
              have XE327 : Ext h315 h320 := (own_xk E316 K320 (allS (Nat.le_of_eq g316.symm) all0))
              have G328 : own_Str Z h320 r315 (own_txt i103 i104 i105) := (Y315.ext XE327)
              have XO329 : Old Z n0 h320 := (XO318.keep K320 (allS (Nat.le_trans Z0 (Nat.le_trans (Nat.le_trans E313.1 E315.1) (Nat.le_of_eq g316.symm))) all0))
              have A331 : Exa Z h320 b316 "com/example/librow/librow/QueryLexer$Token" := (A316.keep K320)
              obtain ⟨cq330, kq330, q330a, q330b, q330c⟩ := isOf hz315 e320 A331
              obtain ⟨_, _, ⟨T330, L330, k330, n330⟩, -, X330, ⟨Lc330, hQ330, l330, y330, z330⟩, st330⟩ := X320.virtualBack hx (y := (⟨"com/example/librow/librow/QueryLexer$Token", "isSymbol", "(Ljava/lang/String;)Z"⟩ : MethodName)) (z := (⟨"com/example/librow/librow/QueryLexer$Token", "isSymbol", "(Ljava/lang/String;)Z"⟩ : MethodName)) ho315 (mvT hz315 (hw _ own_w64)) (mvT hz315 (hw _ own_w65)) (notFace_of_selects (args := #[]) (mvT hz315 (hw _ own_w67))) (mvT hz315 (hw _ own_w67)) (mvT hz315 (hw _ own_w66)) (by decide) (backOf (W := 0) (own_rm_isy l Z a0 hw G1 S1 P1 hCH hCW k0 k1 k2 k3 k4 k5 k6 B [] b316 r315 r313 (own_txt i102 i104 i105) (own_txt i103 i104 i105) h320 n0 (Nat.le_trans Z0 (Nat.le_trans (Nat.le_trans (Nat.le_trans E313.1 E315.1) E316.1) K320.1)) XO329 Fk5 Ft320 G326 G328) hz315 (hw _ own_w68) (hw _ own_w40) (by decide) (by decide)) q330a q330c (g := (mkF m 188 #[.val (.int p0), .val (.int p1), .val (.int p2), .val (.int p3), .val (.int p4), .val (.int p5), .val (.int i101), .val (.int i102), .val (.int i103), .val (.int i104), .val (.int i105), .val (.int i104), .val (.int i105), .val (.ref r313), .val (.ref r315), .val (.ref b316), .val (.int (1 : Int32))] [(.ref r315), (.ref b316)])) rfl (by rw [hml]; rfl) (Steps.refl _) (argsL := [(.ref r315)]) (rest := []) (lenOf own_pd7 rfl) rfl (by show 2 * 0 + _ ≤ _; exact Nat.le_of_eq rfl) (hb hby at_188) (fun _ _ => ⟨rfl, e320, (by decide : 9 + 0 ≤ _), (by decide : 20 + 0 ≤ _)⟩)
              dsimp only [Pt.U, Pt.locs, Pt.cells, Pt.slots] at X330 l330 y330 z330 st330 hQ330
              subst l330 y330 z330
              obtain ⟨o330, M330, e330⟩ := hQ330
              have N330 := Fr.app N320 M330
              obtain ⟨rfl, -⟩ := own_pickY o330 ((own_txt_eq (own_rem3 gi102) (own_rem3 gi103)).mpr ⟨hc322, Or.inl hc323, Or.inl hc324⟩)
              refine own_tr (S' := T330.setTop (mkF m 191 #[.val (.int p0), .val (.int p1), .val (.int p2), .val (.int p3), .val (.int p4), .val (.int p5), .val (.int i101), .val (.int i102), .val (.int i103), .val (.int i104), .val (.int i105), .val (.int i104), .val (.int i105), .val (.ref r313), .val (.ref r315), .val (.ref b316), .val (.int (1 : Int32))] [(.int (1 : Int32))])) st330 ?_
              refine own_st (S' := T330.setTop (mkF m 201 #[.val (.int p0), .val (.int p1), .val (.int p2), .val (.int p3), .val (.int p4), .val (.int p5), .val (.int i101), .val (.int i102), .val (.int i103), .val (.int i104), .val (.int i105), .val (.int i104), .val (.int i105), .val (.ref r313), .val (.ref r315), .val (.ref b316), .val (.int (1 : Int32))] [(.int (1 : Int32))])) (fun _ k => XS.iload X330.here hx rfl (hb hby at_191) rfl (XS.icmpNo X330.here hx rfl (hb hby at_193) rfl (by decide) (XS.iconst X330.here hx rfl (hb hby at_196) (XS.goto X330.here hx rfl (pc0 := 197) (pc' := 201) rfl (hb hby at_197) (by decide) (by decide) k)))) ?_
              refine own_retW X330 hx ss315 (by rw [e330]; exact Nat.le_trans (Nat.le_refl _) (Nat.le_trans E316.1 K320.1)) Bd.returns hlk rfl (Or.inl ⟨rfl, (by simp), _, rfl⟩) (hb hby at_201) (by decide) (by decide) ?_
              rw [e330]
              exact ⟨rfl, N330⟩
            · refine own_st (S' := T320.setTop (mkF m 177 #[.val (.int p0), .val (.int p1), .val (.int p2), .val (.int p3), .val (.int p4), .val (.int p5), .val (.int i101), .val (.int i102), .val (.int i103), .val (.int i104), .val (.int i105), .val (.int i104), .val (.int i105), .val (.ref r313), .val (.ref r315), .val (.ref b316), .unset] [])) (fun _ k => XS.icmpNo X320.here hx rfl (hb hby at_167) rfl (flt hc324).1 (XS.iload X320.here hx rfl (hb hby at_170) rfl (XS.iload X320.here hx rfl (hb hby at_172) rfl (XS.icmpNo X320.here hx rfl (hb hby at_174) rfl (teq rfl).2 k)))) ?_
              refine own_st (S' := T320.setTop (mkF m 186 #[.val (.int p0), .val (.int p1), .val (.int p2), .val (.int p3), .val (.int p4), .val (.int p5), .val (.int i101), .val (.int i102), .val (.int i103), .val (.int i104), .val (.int i105), .val (.int i104), .val (.int i105), .val (.ref r313), .val (.ref r315), .val (.ref b316), .val (.int (1 : Int32))] [(.ref b316)])) (fun _ k => XS.iconst X320.here hx rfl (hb hby at_177) (XS.goto X320.here hx rfl (pc0 := 178) (pc' := 182) rfl (hb hby at_178) (by decide) (by decide) (XS.istore X320.here hx rfl (hb hby at_182) rfl (l' := #[.val (.int p0), .val (.int p1), .val (.int p2), .val (.int p3), .val (.int p4), .val (.int p5), .val (.int i101), .val (.int i102), .val (.int i103), .val (.int i104), .val (.int i105), .val (.int i104), .val (.int i105), .val (.ref r313), .val (.ref r315), .val (.ref b316), .val (.int (1 : Int32))]) rfl (XS.aload X320.here hx rfl (hb hby at_184) rfl rfl k)))) ?_
              refine own_st (S' := T320.setTop (mkF m 188 #[.val (.int p0), .val (.int p1), .val (.int p2), .val (.int p3), .val (.int p4), .val (.int p5), .val (.int i101), .val (.int i102), .val (.int i103), .val (.int i104), .val (.int i105), .val (.int i104), .val (.int i105), .val (.ref r313), .val (.ref r315), .val (.ref b316), .val (.int (1 : Int32))] [(.ref r315), (.ref b316)])) (fun _ k => XS.aload X320.here hx rfl (hb hby at_186) rfl rfl k) ?_
              have hke : r319 = k5 := o319.elim (fun q => q.2) fun q => absurd hc321 q.1
              have Fk5 : Fld Z h320 b316 "com/example/librow/librow/QueryLexer$Token" "kind" "Lcom/example/librow/librow/QueryLexer$Kind;" (.ref k5) := hke ▸ Fk320
              have XE332 : Ext h313 h320 := (own_xk XE317 K320 (allS (Nat.le_trans E315.1 (Nat.le_of_eq g316.symm)) all0))
              have G333 : own_Str Z h320 r313 (own_txt i102 i104 i105) := (Y313.ext XE332)
              have XE334 : Ext h315 h320 := (own_xk E316 K320 (allS (Nat.le_of_eq g316.symm) all0))
              have G335 : own_Str Z h320 r315 (own_txt i103 i104 i105) := (Y315.ext XE334)
              have XO336 : Old Z n0 h320 := (XO318.keep K320 (allS (Nat.le_trans Z0 (Nat.le_trans (Nat.le_trans E313.1 E315.1) (Nat.le_of_eq g316.symm))) all0))
              have A338 : Exa Z h320 b316 "com/example/librow/librow/QueryLexer$Token" := (A316.keep K320)
              obtain ⟨cq337, kq337, q337a, q337b, q337c⟩ := isOf hz315 e320 A338
              obtain ⟨_, _, ⟨T337, L337, k337, n337⟩, -, X337, ⟨Lc337, hQ337, l337, y337, z337⟩, st337⟩ := X320.virtualBack hx (y := (⟨"com/example/librow/librow/QueryLexer$Token", "isSymbol", "(Ljava/lang/String;)Z"⟩ : MethodName)) (z := (⟨"com/example/librow/librow/QueryLexer$Token", "isSymbol", "(Ljava/lang/String;)Z"⟩ : MethodName)) ho315 (mvT hz315 (hw _ own_w64)) (mvT hz315 (hw _ own_w65)) (notFace_of_selects (args := #[]) (mvT hz315 (hw _ own_w67))) (mvT hz315 (hw _ own_w67)) (mvT hz315 (hw _ own_w66)) (by decide) (backOf (W := 0) (own_rm_isy l Z a0 hw G1 S1 P1 hCH hCW k0 k1 k2 k3 k4 k5 k6 B [] b316 r315 r313 (own_txt i102 i104 i105) (own_txt i103 i104 i105) h320 n0 (Nat.le_trans Z0 (Nat.le_trans (Nat.le_trans (Nat.le_trans E313.1 E315.1) E316.1) K320.1)) XO336 Fk5 Ft320 G333 G335) hz315 (hw _ own_w68) (hw _ own_w40) (by decide) (by decide)) q337a q337c (g := (mkF m 188 #[.val (.int p0), .val (.int p1), .val (.int p2), .val (.int p3), .val (.int p4), .val (.int p5), .val (.int i101), .val (.int i102), .val (.int i103), .val (.int i104), .val (.int i105), .val (.int i104), .val (.int i105), .val (.ref r313), .val (.ref r315), .val (.ref b316), .val (.int (1 : Int32))] [(.ref r315), (.ref b316)])) rfl (by rw [hml]; rfl) (Steps.refl _) (argsL := [(.ref r315)]) (rest := []) (lenOf own_pd7 rfl) rfl (by show 2 * 0 + _ ≤ _; exact Nat.le_of_eq rfl) (hb hby at_188) (fun _ _ => ⟨rfl, e320, (by decide : 9 + 0 ≤ _), (by decide : 20 + 0 ≤ _)⟩)
              dsimp only [Pt.U, Pt.locs, Pt.cells, Pt.slots] at X337 l337 y337 z337 st337 hQ337
              subst l337 y337 z337
              obtain ⟨o337, M337, e337⟩ := hQ337
              have N337 := Fr.app N320 M337
              obtain ⟨rfl, -⟩ := own_pickY o337 ((own_txt_eq (own_rem3 gi102) (own_rem3 gi103)).mpr ⟨hc322, Or.inl hc323, Or.inr rfl⟩)
              refine own_tr (S' := T337.setTop (mkF m 191 #[.val (.int p0), .val (.int p1), .val (.int p2), .val (.int p3), .val (.int p4), .val (.int p5), .val (.int i101), .val (.int i102), .val (.int i103), .val (.int i104), .val (.int i105), .val (.int i104), .val (.int i105), .val (.ref r313), .val (.ref r315), .val (.ref b316), .val (.int (1 : Int32))] [(.int (1 : Int32))])) st337 ?_
              refine own_st (S' := T337.setTop (mkF m 201 #[.val (.int p0), .val (.int p1), .val (.int p2), .val (.int p3), .val (.int p4), .val (.int p5), .val (.int i101), .val (.int i102), .val (.int i103), .val (.int i104), .val (.int i105), .val (.int i104), .val (.int i105), .val (.ref r313), .val (.ref r315), .val (.ref b316), .val (.int (1 : Int32))] [(.int (1 : Int32))])) (fun _ k => XS.iload X337.here hx rfl (hb hby at_191) rfl (XS.icmpNo X337.here hx rfl (hb hby at_193) rfl (by decide) (XS.iconst X337.here hx rfl (hb hby at_196) (XS.goto X337.here hx rfl (pc0 := 197) (pc' := 201) rfl (hb hby at_197) (by decide) (by decide) k)))) ?_
              refine own_retW X337 hx ss315 (by rw [e337]; exact Nat.le_trans (Nat.le_refl _) (Nat.le_trans E316.1 K320.1)) Bd.returns hlk rfl (Or.inl ⟨rfl, (by simp), _, rfl⟩) (hb hby at_201) (by decide) (by decide) ?_
              rw [e337]
              exact ⟨rfl, N337⟩
          · refine own_st (S' := T320.setTop (mkF m 164 #[.val (.int p0), .val (.int p1), .val (.int p2), .val (.int p3), .val (.int p4), .val (.int p5), .val (.int i101), .val (.int i102), .val (.int i103), .val (.int i104), .val (.int i105), .val (.int i104), .val (.int i105), .val (.ref r313), .val (.ref r315), .val (.ref b316), .unset] [])) (fun _ k => XS.icmpNo X320.here hx rfl (hb hby at_154) rfl (flt hc323).1 (XS.iload X320.here hx rfl (hb hby at_157) rfl (XS.iload X320.here hx rfl (hb hby at_159) rfl (XS.icmpNo X320.here hx rfl (hb hby at_161) rfl (teq rfl).2 k)))) ?_
            refine own_st (S' := T320.setTop (mkF m 167 #[.val (.int p0), .val (.int p1), .val (.int p2), .val (.int p3), .val (.int p4), .val (.int p5), .val (.int i101), .val (.int i102), .val (.int i103), .val (.int i104), .val (.int i105), .val (.int i104), .val (.int i105), .val (.ref r313), .val (.ref r315), .val (.ref b316), .unset] [(.int (2 : Int32)), (.int i102)])) (fun _ k => XS.iload X320.here hx rfl (hb hby at_164) rfl (XS.iconst X320.here hx rfl (hb hby at_166) k)) ?_
            by_cases hc339 : i102 < (2 : Int32)
            · refine own_st (S' := T320.setTop (mkF m 184 #[.val (.int p0), .val (.int p1), .val (.int p2), .val (.int p3), .val (.int p4), .val (.int p5), .val (.int i101), .val (.int i102), .val (.int i103), .val (.int i104), .val (.int i105), .val (.int i104), .val (.int i105), .val (.ref r313), .val (.ref r315), .val (.ref b316), .val (.int (1 : Int32))] [])) (fun _ k => XS.icmpYes X320.here hx rfl (pc0 := 167) (pc' := 177) rfl (hb hby at_167) rfl (tlt hc339).1 (by decide) (by decide) (XS.iconst X320.here hx rfl (hb hby at_177) (XS.goto X320.here hx rfl (pc0 := 178) (pc' := 182) rfl (hb hby at_178) (by decide) (by decide) (XS.istore X320.here hx rfl (hb hby at_182) rfl (l' := #[.val (.int p0), .val (.int p1), .val (.int p2), .val (.int p3), .val (.int p4), .val (.int p5), .val (.int i101), .val (.int i102), .val (.int i103), .val (.int i104), .val (.int i105), .val (.int i104), .val (.int i105), .val (.ref r313), .val (.ref r315), .val (.ref b316), .val (.int (1 : Int32))]) rfl k)))) ?_
              refine own_st (S' := T320.setTop (mkF m 188 #[.val (.int p0), .val (.int p1), .val (.int p2), .val (.int p3), .val (.int p4), .val (.int p5), .val (.int i101), .val (.int i102), .val (.int i103), .val (.int i104), .val (.int i105), .val (.int i104), .val (.int i105), .val (.ref r313), .val (.ref r315), .val (.ref b316), .val (.int (1 : Int32))] [(.ref r315), (.ref b316)])) (fun _ k => XS.aload X320.here hx rfl (hb hby at_184) rfl rfl (XS.aload X320.here hx rfl (hb hby at_186) rfl rfl k)) ?_
              have hke : r319 = k5 := o319.elim (fun q => q.2) fun q => absurd hc321 q.1
              have Fk5 : Fld Z h320 b316 "com/example/librow/librow/QueryLexer$Token" "kind" "Lcom/example/librow/librow/QueryLexer$Kind;" (.ref k5) := hke ▸ Fk320
              have XE340 : Ext h313 h320 := (own_xk XE317 K320 (allS (Nat.le_trans E315.1 (Nat.le_of_eq g316.symm)) all0))
              have G341 : own_Str Z h320 r313 (own_txt i102 i104 i105) := (Y313.ext XE340)
              have XE342 : Ext h315 h320 := (own_xk E316 K320 (allS (Nat.le_of_eq g316.symm) all0))
              have G343 : own_Str Z h320 r315 (own_txt i103 i104 i105) := (Y315.ext XE342)
              have XO344 : Old Z n0 h320 := (XO318.keep K320 (allS (Nat.le_trans Z0 (Nat.le_trans (Nat.le_trans E313.1 E315.1) (Nat.le_of_eq g316.symm))) all0))
              have A346 : Exa Z h320 b316 "com/example/librow/librow/QueryLexer$Token" := (A316.keep K320)
              obtain ⟨cq345, kq345, q345a, q345b, q345c⟩ := isOf hz315 e320 A346
              obtain ⟨_, _, ⟨T345, L345, k345, n345⟩, -, X345, ⟨Lc345, hQ345, l345, y345, z345⟩, st345⟩ := X320.virtualBack hx (y := (⟨"com/example/librow/librow/QueryLexer$Token", "isSymbol", "(Ljava/lang/String;)Z"⟩ : MethodName)) (z := (⟨"com/example/librow/librow/QueryLexer$Token", "isSymbol", "(Ljava/lang/String;)Z"⟩ : MethodName)) ho315 (mvT hz315 (hw _ own_w64)) (mvT hz315 (hw _ own_w65)) (notFace_of_selects (args := #[]) (mvT hz315 (hw _ own_w67))) (mvT hz315 (hw _ own_w67)) (mvT hz315 (hw _ own_w66)) (by decide) (backOf (W := 0) (own_rm_isy l Z a0 hw G1 S1 P1 hCH hCW k0 k1 k2 k3 k4 k5 k6 B [] b316 r315 r313 (own_txt i102 i104 i105) (own_txt i103 i104 i105) h320 n0 (Nat.le_trans Z0 (Nat.le_trans (Nat.le_trans (Nat.le_trans E313.1 E315.1) E316.1) K320.1)) XO344 Fk5 Ft320 G341 G343) hz315 (hw _ own_w68) (hw _ own_w40) (by decide) (by decide)) q345a q345c (g := (mkF m 188 #[.val (.int p0), .val (.int p1), .val (.int p2), .val (.int p3), .val (.int p4), .val (.int p5), .val (.int i101), .val (.int i102), .val (.int i103), .val (.int i104), .val (.int i105), .val (.int i104), .val (.int i105), .val (.ref r313), .val (.ref r315), .val (.ref b316), .val (.int (1 : Int32))] [(.ref r315), (.ref b316)])) rfl (by rw [hml]; rfl) (Steps.refl _) (argsL := [(.ref r315)]) (rest := []) (lenOf own_pd7 rfl) rfl (by show 2 * 0 + _ ≤ _; exact Nat.le_of_eq rfl) (hb hby at_188) (fun _ _ => ⟨rfl, e320, (by decide : 9 + 0 ≤ _), (by decide : 20 + 0 ≤ _)⟩)
              dsimp only [Pt.U, Pt.locs, Pt.cells, Pt.slots] at X345 l345 y345 z345 st345 hQ345
              subst l345 y345 z345
              obtain ⟨o345, M345, e345⟩ := hQ345
              have N345 := Fr.app N320 M345
              obtain ⟨rfl, -⟩ := own_pickY o345 ((own_txt_eq (own_rem3 gi102) (own_rem3 gi103)).mpr ⟨hc322, Or.inr rfl, Or.inl hc339⟩)
              refine own_tr (S' := T345.setTop (mkF m 191 #[.val (.int p0), .val (.int p1), .val (.int p2), .val (.int p3), .val (.int p4), .val (.int p5), .val (.int i101), .val (.int i102), .val (.int i103), .val (.int i104), .val (.int i105), .val (.int i104), .val (.int i105), .val (.ref r313), .val (.ref r315), .val (.ref b316), .val (.int (1 : Int32))] [(.int (1 : Int32))])) st345 ?_
              refine own_st (S' := T345.setTop (mkF m 201 #[.val (.int p0), .val (.int p1), .val (.int p2), .val (.int p3), .val (.int p4), .val (.int p5), .val (.int i101), .val (.int i102), .val (.int i103), .val (.int i104), .val (.int i105), .val (.int i104), .val (.int i105), .val (.ref r313), .val (.ref r315), .val (.ref b316), .val (.int (1 : Int32))] [(.int (1 : Int32))])) (fun _ k => XS.iload X345.here hx rfl (hb hby at_191) rfl (XS.icmpNo X345.here hx rfl (hb hby at_193) rfl (by decide) (XS.iconst X345.here hx rfl (hb hby at_196) (XS.goto X345.here hx rfl (pc0 := 197) (pc' := 201) rfl (hb hby at_197) (by decide) (by decide) k)))) ?_
              refine own_retW X345 hx ss315 (by rw [e345]; exact Nat.le_trans (Nat.le_refl _) (Nat.le_trans E316.1 K320.1)) Bd.returns hlk rfl (Or.inl ⟨rfl, (by simp), _, rfl⟩) (hb hby at_201) (by decide) (by decide) ?_
              rw [e345]
              exact ⟨rfl, N345⟩
            · refine own_st (S' := T320.setTop (mkF m 177 #[.val (.int p0), .val (.int p1), .val (.int p2), .val (.int p3), .val (.int p4), .val (.int p5), .val (.int i101), .val (.int i102), .val (.int i103), .val (.int i104), .val (.int i105), .val (.int i104), .val (.int i105), .val (.ref r313), .val (.ref r315), .val (.ref b316), .unset] [])) (fun _ k => XS.icmpNo X320.here hx rfl (hb hby at_167) rfl (flt hc339).1 (XS.iload X320.here hx rfl (hb hby at_170) rfl (XS.iload X320.here hx rfl (hb hby at_172) rfl (XS.icmpNo X320.here hx rfl (hb hby at_174) rfl (teq rfl).2 k)))) ?_
              refine own_st (S' := T320.setTop (mkF m 186 #[.val (.int p0), .val (.int p1), .val (.int p2), .val (.int p3), .val (.int p4), .val (.int p5), .val (.int i101), .val (.int i102), .val (.int i103), .val (.int i104), .val (.int i105), .val (.int i104), .val (.int i105), .val (.ref r313), .val (.ref r315), .val (.ref b316), .val (.int (1 : Int32))] [(.ref b316)])) (fun _ k => XS.iconst X320.here hx rfl (hb hby at_177) (XS.goto X320.here hx rfl (pc0 := 178) (pc' := 182) rfl (hb hby at_178) (by decide) (by decide) (XS.istore X320.here hx rfl (hb hby at_182) rfl (l' := #[.val (.int p0), .val (.int p1), .val (.int p2), .val (.int p3), .val (.int p4), .val (.int p5), .val (.int i101), .val (.int i102), .val (.int i103), .val (.int i104), .val (.int i105), .val (.int i104), .val (.int i105), .val (.ref r313), .val (.ref r315), .val (.ref b316), .val (.int (1 : Int32))]) rfl (XS.aload X320.here hx rfl (hb hby at_184) rfl rfl k)))) ?_
              refine own_st (S' := T320.setTop (mkF m 188 #[.val (.int p0), .val (.int p1), .val (.int p2), .val (.int p3), .val (.int p4), .val (.int p5), .val (.int i101), .val (.int i102), .val (.int i103), .val (.int i104), .val (.int i105), .val (.int i104), .val (.int i105), .val (.ref r313), .val (.ref r315), .val (.ref b316), .val (.int (1 : Int32))] [(.ref r315), (.ref b316)])) (fun _ k => XS.aload X320.here hx rfl (hb hby at_186) rfl rfl k) ?_
              have hke : r319 = k5 := o319.elim (fun q => q.2) fun q => absurd hc321 q.1
              have Fk5 : Fld Z h320 b316 "com/example/librow/librow/QueryLexer$Token" "kind" "Lcom/example/librow/librow/QueryLexer$Kind;" (.ref k5) := hke ▸ Fk320
              have XE347 : Ext h313 h320 := (own_xk XE317 K320 (allS (Nat.le_trans E315.1 (Nat.le_of_eq g316.symm)) all0))
              have G348 : own_Str Z h320 r313 (own_txt i102 i104 i105) := (Y313.ext XE347)
              have XE349 : Ext h315 h320 := (own_xk E316 K320 (allS (Nat.le_of_eq g316.symm) all0))
              have G350 : own_Str Z h320 r315 (own_txt i103 i104 i105) := (Y315.ext XE349)
              have XO351 : Old Z n0 h320 := (XO318.keep K320 (allS (Nat.le_trans Z0 (Nat.le_trans (Nat.le_trans E313.1 E315.1) (Nat.le_of_eq g316.symm))) all0))
              have A353 : Exa Z h320 b316 "com/example/librow/librow/QueryLexer$Token" := (A316.keep K320)
              obtain ⟨cq352, kq352, q352a, q352b, q352c⟩ := isOf hz315 e320 A353
              obtain ⟨_, _, ⟨T352, L352, k352, n352⟩, -, X352, ⟨Lc352, hQ352, l352, y352, z352⟩, st352⟩ := X320.virtualBack hx (y := (⟨"com/example/librow/librow/QueryLexer$Token", "isSymbol", "(Ljava/lang/String;)Z"⟩ : MethodName)) (z := (⟨"com/example/librow/librow/QueryLexer$Token", "isSymbol", "(Ljava/lang/String;)Z"⟩ : MethodName)) ho315 (mvT hz315 (hw _ own_w64)) (mvT hz315 (hw _ own_w65)) (notFace_of_selects (args := #[]) (mvT hz315 (hw _ own_w67))) (mvT hz315 (hw _ own_w67)) (mvT hz315 (hw _ own_w66)) (by decide) (backOf (W := 0) (own_rm_isy l Z a0 hw G1 S1 P1 hCH hCW k0 k1 k2 k3 k4 k5 k6 B [] b316 r315 r313 (own_txt i102 i104 i105) (own_txt i103 i104 i105) h320 n0 (Nat.le_trans Z0 (Nat.le_trans (Nat.le_trans (Nat.le_trans E313.1 E315.1) E316.1) K320.1)) XO351 Fk5 Ft320 G348 G350) hz315 (hw _ own_w68) (hw _ own_w40) (by decide) (by decide)) q352a q352c (g := (mkF m 188 #[.val (.int p0), .val (.int p1), .val (.int p2), .val (.int p3), .val (.int p4), .val (.int p5), .val (.int i101), .val (.int i102), .val (.int i103), .val (.int i104), .val (.int i105), .val (.int i104), .val (.int i105), .val (.ref r313), .val (.ref r315), .val (.ref b316), .val (.int (1 : Int32))] [(.ref r315), (.ref b316)])) rfl (by rw [hml]; rfl) (Steps.refl _) (argsL := [(.ref r315)]) (rest := []) (lenOf own_pd7 rfl) rfl (by show 2 * 0 + _ ≤ _; exact Nat.le_of_eq rfl) (hb hby at_188) (fun _ _ => ⟨rfl, e320, (by decide : 9 + 0 ≤ _), (by decide : 20 + 0 ≤ _)⟩)
              dsimp only [Pt.U, Pt.locs, Pt.cells, Pt.slots] at X352 l352 y352 z352 st352 hQ352
              subst l352 y352 z352
              obtain ⟨o352, M352, e352⟩ := hQ352
              have N352 := Fr.app N320 M352
              obtain ⟨rfl, -⟩ := own_pickY o352 ((own_txt_eq (own_rem3 gi102) (own_rem3 gi103)).mpr ⟨hc322, Or.inr rfl, Or.inr rfl⟩)
              refine own_tr (S' := T352.setTop (mkF m 191 #[.val (.int p0), .val (.int p1), .val (.int p2), .val (.int p3), .val (.int p4), .val (.int p5), .val (.int i101), .val (.int i102), .val (.int i103), .val (.int i104), .val (.int i105), .val (.int i104), .val (.int i105), .val (.ref r313), .val (.ref r315), .val (.ref b316), .val (.int (1 : Int32))] [(.int (1 : Int32))])) st352 ?_
              refine own_st (S' := T352.setTop (mkF m 201 #[.val (.int p0), .val (.int p1), .val (.int p2), .val (.int p3), .val (.int p4), .val (.int p5), .val (.int i101), .val (.int i102), .val (.int i103), .val (.int i104), .val (.int i105), .val (.int i104), .val (.int i105), .val (.ref r313), .val (.ref r315), .val (.ref b316), .val (.int (1 : Int32))] [(.int (1 : Int32))])) (fun _ k => XS.iload X352.here hx rfl (hb hby at_191) rfl (XS.icmpNo X352.here hx rfl (hb hby at_193) rfl (by decide) (XS.iconst X352.here hx rfl (hb hby at_196) (XS.goto X352.here hx rfl (pc0 := 197) (pc' := 201) rfl (hb hby at_197) (by decide) (by decide) k)))) ?_
              refine own_retW X352 hx ss315 (by rw [e352]; exact Nat.le_trans (Nat.le_refl _) (Nat.le_trans E316.1 K320.1)) Bd.returns hlk rfl (Or.inl ⟨rfl, (by simp), _, rfl⟩) (hb hby at_201) (by decide) (by decide) ?_
              rw [e352]
              exact ⟨rfl, N352⟩
        · refine own_st (S' := T320.setTop (mkF m 186 #[.val (.int p0), .val (.int p1), .val (.int p2), .val (.int p3), .val (.int p4), .val (.int p5), .val (.int i101), .val (.int i102), .val (.int i103), .val (.int i104), .val (.int i105), .val (.int i104), .val (.int i105), .val (.ref r313), .val (.ref r315), .val (.ref b316), .val (.int (0 : Int32))] [(.ref b316)])) (fun _ k => XS.icmpYes X320.here hx rfl (pc0 := 148) (pc' := 181) rfl (hb hby at_148) rfl (feq hc322).2 (by decide) (by decide) (XS.iconst X320.here hx rfl (hb hby at_181) (XS.istore X320.here hx rfl (hb hby at_182) rfl (l' := #[.val (.int p0), .val (.int p1), .val (.int p2), .val (.int p3), .val (.int p4), .val (.int p5), .val (.int i101), .val (.int i102), .val (.int i103), .val (.int i104), .val (.int i105), .val (.int i104), .val (.int i105), .val (.ref r313), .val (.ref r315), .val (.ref b316), .val (.int (0 : Int32))]) rfl (XS.aload X320.here hx rfl (hb hby at_184) rfl rfl k)))) ?_
          refine own_st (S' := T320.setTop (mkF m 188 #[.val (.int p0), .val (.int p1), .val (.int p2), .val (.int p3), .val (.int p4), .val (.int p5), .val (.int i101), .val (.int i102), .val (.int i103), .val (.int i104), .val (.int i105), .val (.int i104), .val (.int i105), .val (.ref r313), .val (.ref r315), .val (.ref b316), .val (.int (0 : Int32))] [(.ref r315), (.ref b316)])) (fun _ k => XS.aload X320.here hx rfl (hb hby at_186) rfl rfl k) ?_
          have hke : r319 = k5 := o319.elim (fun q => q.2) fun q => absurd hc321 q.1
          have Fk5 : Fld Z h320 b316 "com/example/librow/librow/QueryLexer$Token" "kind" "Lcom/example/librow/librow/QueryLexer$Kind;" (.ref k5) := hke ▸ Fk320
          have XE354 : Ext h313 h320 := (own_xk XE317 K320 (allS (Nat.le_trans E315.1 (Nat.le_of_eq g316.symm)) all0))
          have G355 : own_Str Z h320 r313 (own_txt i102 i104 i105) := (Y313.ext XE354)
          have XE356 : Ext h315 h320 := (own_xk E316 K320 (allS (Nat.le_of_eq g316.symm) all0))
          have G357 : own_Str Z h320 r315 (own_txt i103 i104 i105) := (Y315.ext XE356)
          have XO358 : Old Z n0 h320 := (XO318.keep K320 (allS (Nat.le_trans Z0 (Nat.le_trans (Nat.le_trans E313.1 E315.1) (Nat.le_of_eq g316.symm))) all0))
          have A360 : Exa Z h320 b316 "com/example/librow/librow/QueryLexer$Token" := (A316.keep K320)
          obtain ⟨cq359, kq359, q359a, q359b, q359c⟩ := isOf hz315 e320 A360
          obtain ⟨_, _, ⟨T359, L359, k359, n359⟩, -, X359, ⟨Lc359, hQ359, l359, y359, z359⟩, st359⟩ := X320.virtualBack hx (y := (⟨"com/example/librow/librow/QueryLexer$Token", "isSymbol", "(Ljava/lang/String;)Z"⟩ : MethodName)) (z := (⟨"com/example/librow/librow/QueryLexer$Token", "isSymbol", "(Ljava/lang/String;)Z"⟩ : MethodName)) ho315 (mvT hz315 (hw _ own_w64)) (mvT hz315 (hw _ own_w65)) (notFace_of_selects (args := #[]) (mvT hz315 (hw _ own_w67))) (mvT hz315 (hw _ own_w67)) (mvT hz315 (hw _ own_w66)) (by decide) (backOf (W := 0) (own_rm_isy l Z a0 hw G1 S1 P1 hCH hCW k0 k1 k2 k3 k4 k5 k6 B [] b316 r315 r313 (own_txt i102 i104 i105) (own_txt i103 i104 i105) h320 n0 (Nat.le_trans Z0 (Nat.le_trans (Nat.le_trans (Nat.le_trans E313.1 E315.1) E316.1) K320.1)) XO358 Fk5 Ft320 G355 G357) hz315 (hw _ own_w68) (hw _ own_w40) (by decide) (by decide)) q359a q359c (g := (mkF m 188 #[.val (.int p0), .val (.int p1), .val (.int p2), .val (.int p3), .val (.int p4), .val (.int p5), .val (.int i101), .val (.int i102), .val (.int i103), .val (.int i104), .val (.int i105), .val (.int i104), .val (.int i105), .val (.ref r313), .val (.ref r315), .val (.ref b316), .val (.int (0 : Int32))] [(.ref r315), (.ref b316)])) rfl (by rw [hml]; rfl) (Steps.refl _) (argsL := [(.ref r315)]) (rest := []) (lenOf own_pd7 rfl) rfl (by show 2 * 0 + _ ≤ _; exact Nat.le_of_eq rfl) (hb hby at_188) (fun _ _ => ⟨rfl, e320, (by decide : 9 + 0 ≤ _), (by decide : 20 + 0 ≤ _)⟩)
          dsimp only [Pt.U, Pt.locs, Pt.cells, Pt.slots] at X359 l359 y359 z359 st359 hQ359
          subst l359 y359 z359
          obtain ⟨o359, M359, e359⟩ := hQ359
          have N359 := Fr.app N320 M359
          obtain ⟨rfl, -⟩ := own_pickN o359 (fun q => hc322 ((own_txt_eq (own_rem3 gi102) (own_rem3 gi103)).mp q).1)
          refine own_tr (S' := T359.setTop (mkF m 191 #[.val (.int p0), .val (.int p1), .val (.int p2), .val (.int p3), .val (.int p4), .val (.int p5), .val (.int i101), .val (.int i102), .val (.int i103), .val (.int i104), .val (.int i105), .val (.int i104), .val (.int i105), .val (.ref r313), .val (.ref r315), .val (.ref b316), .val (.int (0 : Int32))] [(.int (0 : Int32))])) st359 ?_
          refine own_st (S' := T359.setTop (mkF m 201 #[.val (.int p0), .val (.int p1), .val (.int p2), .val (.int p3), .val (.int p4), .val (.int p5), .val (.int i101), .val (.int i102), .val (.int i103), .val (.int i104), .val (.int i105), .val (.int i104), .val (.int i105), .val (.ref r313), .val (.ref r315), .val (.ref b316), .val (.int (0 : Int32))] [(.int (1 : Int32))])) (fun _ k => XS.iload X359.here hx rfl (hb hby at_191) rfl (XS.icmpNo X359.here hx rfl (hb hby at_193) rfl (by decide) (XS.iconst X359.here hx rfl (hb hby at_196) (XS.goto X359.here hx rfl (pc0 := 197) (pc' := 201) rfl (hb hby at_197) (by decide) (by decide) k)))) ?_
          refine own_retW X359 hx ss315 (by rw [e359]; exact Nat.le_trans (Nat.le_refl _) (Nat.le_trans E316.1 K320.1)) Bd.returns hlk rfl (Or.inl ⟨rfl, (by simp), _, rfl⟩) (hb hby at_201) (by decide) (by decide) ?_
          rw [e359]
          exact ⟨rfl, N359⟩
      · refine own_st (S' := T320.setTop (mkF m 186 #[.val (.int p0), .val (.int p1), .val (.int p2), .val (.int p3), .val (.int p4), .val (.int p5), .val (.int i101), .val (.int i102), .val (.int i103), .val (.int i104), .val (.int i105), .val (.int i104), .val (.int i105), .val (.ref r313), .val (.ref r315), .val (.ref b316), .val (.int (0 : Int32))] [(.ref b316)])) (fun _ k => XS.icmpYes X320.here hx rfl (pc0 := 141) (pc' := 181) rfl (hb hby at_141) rfl (feq hc321).2 (by decide) (by decide) (XS.iconst X320.here hx rfl (hb hby at_181) (XS.istore X320.here hx rfl (hb hby at_182) rfl (l' := #[.val (.int p0), .val (.int p1), .val (.int p2), .val (.int p3), .val (.int p4), .val (.int p5), .val (.int i101), .val (.int i102), .val (.int i103), .val (.int i104), .val (.int i105), .val (.int i104), .val (.int i105), .val (.ref r313), .val (.ref r315), .val (.ref b316), .val (.int (0 : Int32))]) rfl (XS.aload X320.here hx rfl (hb hby at_184) rfl rfl k)))) ?_
        refine own_st (S' := T320.setTop (mkF m 188 #[.val (.int p0), .val (.int p1), .val (.int p2), .val (.int p3), .val (.int p4), .val (.int p5), .val (.int i101), .val (.int i102), .val (.int i103), .val (.int i104), .val (.int i105), .val (.int i104), .val (.int i105), .val (.ref r313), .val (.ref r315), .val (.ref b316), .val (.int (0 : Int32))] [(.ref r315), (.ref b316)])) (fun _ k => XS.aload X320.here hx rfl (hb hby at_186) rfl rfl k) ?_
        have hne : r319 ≠ k5 := o319.elim (fun q => absurd q.1 hc321) fun q => q.2
        have XO361 : Old Z n0 h320 := (XO318.keep K320 (allS (Nat.le_trans Z0 (Nat.le_trans (Nat.le_trans E313.1 E315.1) (Nat.le_of_eq g316.symm))) all0))
        have A363 : Exa Z h320 b316 "com/example/librow/librow/QueryLexer$Token" := (A316.keep K320)
        obtain ⟨cq362, kq362, q362a, q362b, q362c⟩ := isOf hz315 e320 A363
        obtain ⟨_, _, ⟨T362, L362, k362, n362⟩, -, X362, ⟨Lc362, hQ362, l362, y362, z362⟩, st362⟩ := X320.virtualBack hx (y := (⟨"com/example/librow/librow/QueryLexer$Token", "isSymbol", "(Ljava/lang/String;)Z"⟩ : MethodName)) (z := (⟨"com/example/librow/librow/QueryLexer$Token", "isSymbol", "(Ljava/lang/String;)Z"⟩ : MethodName)) ho315 (mvT hz315 (hw _ own_w64)) (mvT hz315 (hw _ own_w65)) (notFace_of_selects (args := #[]) (mvT hz315 (hw _ own_w67))) (mvT hz315 (hw _ own_w67)) (mvT hz315 (hw _ own_w66)) (by decide) (backOf (W := 0) (own_rm_isn l Z a0 hw G1 S1 P1 hCH hCW k0 k1 k2 k3 k4 k5 k6 B [] b316 r315 r319 h320 n0 (Nat.le_trans Z0 (Nat.le_trans (Nat.le_trans (Nat.le_trans E313.1 E315.1) E316.1) K320.1)) XO361 Fk320 hne) hz315 (hw _ own_w68) (hw _ own_w40) (by decide) (by decide)) q362a q362c (g := (mkF m 188 #[.val (.int p0), .val (.int p1), .val (.int p2), .val (.int p3), .val (.int p4), .val (.int p5), .val (.int i101), .val (.int i102), .val (.int i103), .val (.int i104), .val (.int i105), .val (.int i104), .val (.int i105), .val (.ref r313), .val (.ref r315), .val (.ref b316), .val (.int (0 : Int32))] [(.ref r315), (.ref b316)])) rfl (by rw [hml]; rfl) (Steps.refl _) (argsL := [(.ref r315)]) (rest := []) (lenOf own_pd7 rfl) rfl (by show 2 * 0 + _ ≤ _; exact Nat.le_of_eq rfl) (hb hby at_188) (fun _ _ => ⟨rfl, e320, (by decide : 9 + 0 ≤ _), (by decide : 20 + 0 ≤ _)⟩)
        dsimp only [Pt.U, Pt.locs, Pt.cells, Pt.slots] at X362 l362 y362 z362 st362 hQ362
        subst l362 y362 z362
        obtain ⟨rfl, M362, e362⟩ := hQ362
        have N362 := Fr.app N320 M362
        refine own_tr (S' := T362.setTop (mkF m 191 #[.val (.int p0), .val (.int p1), .val (.int p2), .val (.int p3), .val (.int p4), .val (.int p5), .val (.int i101), .val (.int i102), .val (.int i103), .val (.int i104), .val (.int i105), .val (.int i104), .val (.int i105), .val (.ref r313), .val (.ref r315), .val (.ref b316), .val (.int (0 : Int32))] [(.int (0 : Int32))])) st362 ?_
        refine own_st (S' := T362.setTop (mkF m 201 #[.val (.int p0), .val (.int p1), .val (.int p2), .val (.int p3), .val (.int p4), .val (.int p5), .val (.int i101), .val (.int i102), .val (.int i103), .val (.int i104), .val (.int i105), .val (.int i104), .val (.int i105), .val (.ref r313), .val (.ref r315), .val (.ref b316), .val (.int (0 : Int32))] [(.int (1 : Int32))])) (fun _ k => XS.iload X362.here hx rfl (hb hby at_191) rfl (XS.icmpNo X362.here hx rfl (hb hby at_193) rfl (by decide) (XS.iconst X362.here hx rfl (hb hby at_196) (XS.goto X362.here hx rfl (pc0 := 197) (pc' := 201) rfl (hb hby at_197) (by decide) (by decide) k)))) ?_
        refine own_retW X362 hx ss315 (by rw [e362]; exact Nat.le_trans (Nat.le_refl _) (Nat.le_trans E316.1 K320.1)) Bd.returns hlk rfl (Or.inl ⟨rfl, (by simp), _, rfl⟩) (hb hby at_201) (by decide) (by decide) ?_
        rw [e362]
        exact ⟨rfl, N362⟩
section OwnCase
variable {args : Array Value} {s : State} {a b t : Term} {v w : Value} {x : Addr}
theorem own_ev (h : (Cond.eq a b).value args s none s [] = some true) (hb : b.eval args s none [] s = some w) (hw : (∃ z, w = .int z) ∨ w.isRef = true) : a.eval args s none [] s = some w := by
  cases ha : a.eval args s none [] s with
  | none => simp [Cond.value, ha] at h
  | some v =>
    rcases hw with ⟨z, rfl⟩ | hw
    · cases v <;> simp_all [Cond.value]
    · cases v <;> cases w <;> simp_all [Cond.value, Value.isRef]
theorem own_exa {C : String} (h : (Cond.exactly t C).value args s none s [] = some true) : ∃ x, t.eval args s none [] s = some (.ref x) ∧ Exa s s.heap x C := by
  obtain ⟨x, hx⟩ := exa_v h
  exact ⟨x, hx, Exa.start hx h⟩
theorem own_exA {C : String} (hx : t.eval args s none [] s = some (.ref x)) (h : (Cond.exactly t C).value args s none s [] = some true) : Exa s s.heap x C := Exa.start hx h
theorem own_fld {C n d : String} (ht : t.eval args s none [] s = some (.ref x)) (h : (Term.field t C n d).eval args s none [] s = some v) : Fld s s.heap x C n d v := Fld.start (by rw [← fld_at ht]; exact h)
def own_Els (args : Array Value) (s : State) (t : Term) : Nat → List Value → Prop
  | _, [] => True
  | i, v :: r => (Term.elem t (Term.int (Int32.ofNat i))).eval args s none [] s = some v ∧ own_Els args s t (i + 1) r
theorem own_hasL {cl : Cell} (ht : t.eval args s none [] s = some (.ref x)) (hc : s.heap[x]? = some cl) : ∀ (vs : List Value) (i : Nat), i + vs.length < 2 ^ 31 → own_Els args s t i vs → HasL cl i vs
  | [], _, _, _ => trivial
  | v :: r, i, hi, H => by
    have hi' : i < 2 ^ 31 := by simp only [List.length_cons] at hi; omega
    have q := (elem_in H.1 ht (Term.int_eval _) hc).2
    have e : (Int32.ofNat i).toNatClampNeg = i := by
      have := Int32.toInt_ofNat_small hi'
      simp only [Int32.toNatClampNeg, this]; omega
    rw [e] at q
    exact ⟨q, own_hasL ht hc r (i + 1) (by simp only [List.length_cons] at hi; omega) H.2⟩
theorem own_arv {ty : FieldType} {z : Int32} {vs : List Value} {dv : Value} (hf : Fit s) (ht : t.eval args s none [] s = some (.ref x)) (hA : (Cond.arrayOf t ty).value args s none s [] = some true) (hL : (Cond.eq (Term.length t) (Term.int z)).value args s none s [] = some true) (hz : ¬ z < 0) (hl : z.toNatClampNeg = vs.length) (hE : own_Els args s t 0 vs) : ∃ k, Arv s s.heap x k ty z vs dv := by
  obtain ⟨c, A⟩ := Arr.start ht hA
  have hlen := own_ev hL (Term.int_eval z) (Or.inl ⟨_, rfl⟩)
  have hat : s.arrayAt? x = some c := A.fin (Vm.Alike.refl _)
  have hb : c.slots.size < 2 ^ 31 ∧ c.slots.size.toInt32 = z := by
    simp only [Term.eval, ht, hat, Option.bind_eq_bind, Option.bind_some] at hlen
    split at hlen
    · rename_i hq
      refine ⟨hq, ?_⟩
      simpa using hlen
    · cases hlen
  have hv : 0 + vs.length < 2 ^ 31 := by
    have := (back32 hz).2; omega
  exact ⟨_, Arv.start hf A hb.1 hb.2 hz hl (own_hasL ht A.1 vs 0 hv hE)⟩
theorem own_neq {y : Addr} (h : (Cond.not (Cond.eq a b)).value args s none s [] = some true) (ha : a.eval args s none [] s = some (.ref x)) (hb : b.eval args s none [] s = some (.ref y)) : x ≠ y := fun q => by
  have := not_v h
  rw [eq_R ha hb rfl rfl] at this
  simp [q] at this
end OwnCase
set_option maxRecDepth 65536 in
set_option maxHeartbeats 40000000 in
theorem comes_1 {Post : Tables → Env → Array Value → State → Outcome → State → Prop} (hpost : ∀ tb e args s v u, (limb_1_1.after args s (.returned v) u = true ∧ limb_1_2.after args s (.returned v) u = true ∧ True) → ReturnedEndW s (.returned v) u (Jvm.fieldLocs frame_1_writes args s ++ Jvm.arrayLocs frame_1_arrays args s ++ Jvm.staticLocs frame_1_statics s) 24 1152 → Post tb e args s (.returned v) u) :
    ArmFor flags0 classFile x code maxLocals ret World_1 tables_1 room_1 Calls_1 rest_1 Pre_1 Post := by
  intro l hfl _ _ p e ha hc hk s m args below hf hA hF happ hP
  obtain ⟨hcalls, hrest, hpre⟩ := hP
  obtain ⟨-, -, -, hnamed, -, -, -, hat⟩ := (Spec.applies_iff hf).mp happ
  obtain ⟨hg, hn⟩ := and_e (Cond.before_iff.mp (show (Jvm.Cond.and given_1 narrow_1).before args s = true from hpre))
  obtain ⟨hcnt, hargs⟩ := and_e hg
  obtain ⟨w0, w1, w2, w3, w4, w5, rfl⟩ : ∃ w0 w1 w2 w3 w4 w5 : Value, args = #[w0, w1, w2, w3, w4, w5] := by
    have hs : args.size = 6 := by simpa [Cond.value, given_1] using hcnt
    obtain ⟨L⟩ := args
    match L, hs with
    | [w0, w1, w2, w3, w4, w5], _ => exact ⟨w0, w1, w2, w3, w4, w5, rfl⟩
  have hw := fun d (hd : d ∈ tables_1) => atoms_spec (ws := Jvm.Cond.code x code maxLocals ret :: tables_1) hat d (List.mem_cons_of_mem _ hd)
  obtain ⟨hsets, hown0⟩ := atoms_of _ (rest_1_c_eq ▸ (show rest_1_c.before _ s = true from hrest))
  have hfit : Fit s := fun {y c} hc i hi => by
    obtain ⟨ha, rfl⟩ := Array.getElem?_eq_some_iff.mp hc
    have q := List.all_eq_true.mp ((Array.all_eq_true_iff_forall_mem.mp hF) _ (Array.getElem_mem ha)) i (List.mem_range.mpr hi)
    simpa [Array.getElem?_eq_getElem hi] using q
  obtain ⟨ga0, gb0⟩ := and_e hargs
  obtain ⟨i0, ei0⟩ := is_v ga0
  obtain rfl : w0 = (.int i0) := Option.some.inj ei0
  obtain ⟨ga1, gb1⟩ := and_e gb0
  obtain ⟨i1, ei1⟩ := is_v ga1
  obtain rfl : w1 = (.int i1) := Option.some.inj ei1
  obtain ⟨ga2, gb2⟩ := and_e gb1
  obtain ⟨i2, ei2⟩ := is_v ga2
  obtain rfl : w2 = (.int i2) := Option.some.inj ei2
  obtain ⟨ga3, gb3⟩ := and_e gb2
  obtain ⟨i3, ei3⟩ := is_v ga3
  obtain rfl : w3 = (.int i3) := Option.some.inj ei3
  obtain ⟨ga4, gb4⟩ := and_e gb3
  obtain ⟨i4, ei4⟩ := is_v ga4
  obtain rfl : w4 = (.int i4) := Option.some.inj ei4
  obtain ⟨i5, ei5⟩ := is_v gb4
  obtain rfl : w5 = (.int i5) := Option.some.inj ei5
  obtain ⟨q0, r0⟩ := and_e hn
  obtain ⟨q1, r1⟩ := and_e r0
  obtain ⟨q2, r2⟩ := and_e r1
  obtain ⟨q3, r3⟩ := and_e r2
  obtain ⟨q4, r4⟩ := and_e r3
  obtain ⟨q5, r5⟩ := and_e r4
  obtain ⟨q6, r6⟩ := and_e r5
  obtain ⟨q7, r7⟩ := and_e r6
  obtain ⟨q8, r8⟩ := and_e r7
  obtain ⟨q9, r9⟩ := and_e r8
  obtain ⟨q10, r10⟩ := and_e r9
  obtain ⟨q11, r11⟩ := and_e r10
  obtain ⟨q12, r12⟩ := and_e r11
  have q13 := r12
  obtain ⟨G1, eG1⟩ := is_v (Cond.before_iff.mp (hsets _ (List.mem_of_getElem? (i := 1) rfl)))
  have S1 := Sta.start (C := "java/lang/String") (n := "COMPACT_STRINGS") (d := "Z") eG1 (Or.inl (hsets _ (List.mem_of_getElem? (i := 0) rfl)))
  have P1 : ¬ (G1 = (0 : Int32)) := gotF (Cond.eq_ints eG1 (Term.int_eval (0))) (not_v (Cond.before_iff.mp (hsets _ (List.mem_of_getElem? (i := 2) rfl))))
  obtain ⟨u2, eu2, Eu2⟩ := own_exa q0
  have S3 := Sta.start (C := "com/example/librow/librow/QueryLexer$Kind") (n := "WORD") (d := "Lcom/example/librow/librow/QueryLexer$Kind;") eu2 (Or.inr ⟨(hw _ own_w45), (hw _ own_w46)⟩)
  have v4 := own_ev q2 (Term.int_eval (0)) (Or.inl ⟨_, rfl⟩)
  have F5 := own_fld eu2 v4
  obtain ⟨u6, eu6, Eu6⟩ := own_exa q8
  have S7 := Sta.start (C := "com/example/librow/librow/QueryLexer$Kind") (n := "NUMBER") (d := "Lcom/example/librow/librow/QueryLexer$Kind;") eu6 (Or.inr ⟨(hw _ own_w45), (hw _ own_w76)⟩)
  have v8 := own_ev q9 (Term.int_eval (1)) (Or.inl ⟨_, rfl⟩)
  have F9 := own_fld eu6 v8
  obtain ⟨u10, eu10, Eu10⟩ := own_exa q6
  have S11 := Sta.start (C := "com/example/librow/librow/QueryLexer$Kind") (n := "STRING") (d := "Lcom/example/librow/librow/QueryLexer$Kind;") eu10 (Or.inr ⟨(hw _ own_w45), (hw _ own_w74)⟩)
  have v12 := own_ev q7 (Term.int_eval (2)) (Or.inl ⟨_, rfl⟩)
  have F13 := own_fld eu10 v12
  obtain ⟨u14, eu14, Eu14⟩ := own_exa q10
  have S15 := Sta.start (C := "com/example/librow/librow/QueryLexer$Kind") (n := "NAMED") (d := "Lcom/example/librow/librow/QueryLexer$Kind;") eu14 (Or.inr ⟨(hw _ own_w45), (hw _ own_w78)⟩)
  have v16 := own_ev q11 (Term.int_eval (3)) (Or.inl ⟨_, rfl⟩)
  have F17 := own_fld eu14 v16
  obtain ⟨u18, eu18, Eu18⟩ := own_exa q4
  have S19 := Sta.start (C := "com/example/librow/librow/QueryLexer$Kind") (n := "POSITIONAL") (d := "Lcom/example/librow/librow/QueryLexer$Kind;") eu18 (Or.inr ⟨(hw _ own_w45), (hw _ own_w72)⟩)
  have v20 := own_ev q5 (Term.int_eval (4)) (Or.inl ⟨_, rfl⟩)
  have F21 := own_fld eu18 v20
  obtain ⟨u22, eu22, Eu22⟩ := own_exa q1
  have S23 := Sta.start (C := "com/example/librow/librow/QueryLexer$Kind") (n := "SYMBOL") (d := "Lcom/example/librow/librow/QueryLexer$Kind;") eu22 (Or.inr ⟨(hw _ own_w45), (hw _ own_w70)⟩)
  have v24 := own_ev q3 (Term.int_eval (5)) (Or.inl ⟨_, rfl⟩)
  have F25 := own_fld eu22 v24
  obtain ⟨u26, eu26, Eu26⟩ := own_exa q12
  have S27 := Sta.start (C := "com/example/librow/librow/QueryLexer$Kind") (n := "END") (d := "Lcom/example/librow/librow/QueryLexer$Kind;") eu26 (Or.inr ⟨(hw _ own_w45), (hw _ own_w80)⟩)
  have v28 := own_ev q13 (Term.int_eval (6)) (Or.inl ⟨_, rfl⟩)
  have F29 := own_fld eu26 v28
  have N30 : u2 ≠ u22 := Fld.ne F5 F25 (by decide)
  have N31 : u6 ≠ u22 := Fld.ne F9 F25 (by decide)
  have N32 : u10 ≠ u22 := Fld.ne F13 F25 (by decide)
  have N33 : u14 ≠ u22 := Fld.ne F17 F25 (by decide)
  have N34 : u18 ≠ u22 := Fld.ne F21 F25 (by decide)
  have N35 : u26 ≠ u22 := Fld.ne F29 F25 (by decide)
  have hCH : Jvm.Lit.constHeld s "java/lang/String" 7 := hcalls.1 ("java/lang/String", 7) (List.mem_cons_self ..)
  have hCW : Jvm.Lit.compactW.before #[.int i0, .int i1, .int i2, .int i3, .int i4, .int i5] s = true := hsets _ (List.mem_of_getElem? (i := 2) rfl)
  obtain ⟨n, o, h1, h2, h3, _, L, rfl, ⟨rfl, N⟩, hq⟩ := own_rm_law l s _ hw G1 S1 P1 hCH hCW u2 u6 u10 u14 u18 u22 u26 ⟨S3, S7, S11, S15, S19, S23, S27, N30, N31, N32, N33, N34, N35⟩ tables_1 i0 i1 i2 i3 i4 i5 s.heap s.heap.size (Nat.le_refl _) (Old.start s) p e ha hc hk s m _ below hf ((Spec.applies_iff_loose hf).mp happ).1 ⟨rfl, State.Warmed39.refl s, rfl, Or.inl IB.start⟩ trivial
  refine ⟨n, _, h1, h2, h3, hpost _ _ _ _ _ _ ⟨Cond.after_iff.mpr rfl, Cond.after_iff.mpr (eq_i res_at (Term.int_eval (1)) rfl), trivial⟩ ⟨hq.1, hq.2.1, hq.2.2.1, (hq.2.2.2.sift fun y hy => Or.inr (N y hy)).mono (by decide) (by decide)⟩⟩
theorem main_1_1 : Claimed_1_1 := comes_1 fun _ _ _ _ _ _ h hF => ⟨h.1, hF⟩
theorem main_1_2 : Claimed_1_2 := comes_1 fun _ _ _ _ _ _ h hF => ⟨h.2.1, hF⟩
end Jvm.Pilot.@@N@@
namespace Jvm.Pilot.@@N@@
open Jvm Jvm.ClassFile Sem Op Lib Jvm.Free Jvm.Stand Jvm.Pilot.@@N@@.Jvm.D
/-! MADE BY PROGRAM (witnessworld.py) out of the Statement's table words and the real class files: 23 classes; the members and pool entries that the words name. The judged class is class 1, her method 1. -/
namespace start1
open Jvm.ClassFile
def u (s : String) : CpInfo := .utf8 (stringToUtf16 s)
/-- a pool by its gaps: so many unusable entries, then the entry; so many at the end -/
def gap : Nat → List CpInfo → List CpInfo
  | 0, r => r
  | n + 1, r => .unusable :: gap n r
def poolList (es : List (Nat × CpInfo)) (last : Nat) : List CpInfo := es.foldr (fun e r => gap e.1 (e.2 :: r)) (gap last [])
def pool (es : List (Nat × CpInfo)) (last : Nat) : Array CpInfo := ⟨poolList es last⟩
def fileOf (pool : Array CpInfo) (this : Nat) (attrs : Array Attribute := #[]) (ms : Array MethodInfo := #[]) (fl : Nat := 33) (sup : Nat := 0) (ifs : Array Nat := #[]) (fds : Array FieldInfo := #[]) : ClassFile where
  minorVersion := 0
  majorVersion := 65
  constantPool := pool
  accessFlags := fl
  thisClass := this
  superClass := sup
  interfaces := ifs
  fields := fds
  methods := ms
  attributes := attrs
def plain (name : String) (sup : Option ClassId) : Class where
  name := name
  kind := .ordinary
  loader := none
  accessFlags := 33
  super := sup
  interfaces := #[]
  cf := none
  fields := #[]
  methods := #[]
  instanceTypes := #[]
  staticTypes := #[]
  resolved := #[]
  callSites := []
  init := .initialized
  statics := none
  mirror := none

def pool0 : Array CpInfo := pool [(5, u "<init>"), (0, u "()V"), (1, .class_ 10), (1, u "java/lang/Object")] 113

def k0c0 : Code := { maxStack := 0, maxLocals := 1, code := object_method_1_code, exceptionTable := #[], attributes := #[] }
def k0m0 : Method := { name := "<init>", desc := "()V", sig := { parameters := [], returnType := none }, accessFlags := 1, code := some k0c0 }
/-- java/lang/Object -/
def k0 : Class := { plain "java/lang/Object" none with
  accessFlags := 33
  interfaces := #[]
  cf := some (fileOf pool0 8 #[] #[{ accessFlags := 1, nameIndex := 5, descriptorIndex := 6, attributes := #[] }] 33 0 #[] #[])
  fields := #[]
  methods := #[k0m0]
  instanceTypes := #[]
  staticTypes := #[]
  resolved := Array.replicate 124 none
  statics := none }

def pool1 : Array CpInfo := pool [(2, .class_ 4), (1, u "java/lang/Object"), (0, u "<init>"), (0, u "()V"), (0, .integer 2147483647), (0, .methodref 9 10), (0, .class_ 11), (0, .nameAndType 12 13), (0, u "com/example/librow/librow/TokenIsSymbolPinLaw"), (0, u "str"), (0, u "(ICC)Ljava/lang/String;"), (0, .class_ 15), (0, u "com/example/librow/librow/QueryLexer$Token"), (0, .methodref 9 17), (0, .nameAndType 18 19), (0, u "kind"), (0, u "(I)Lcom/example/librow/librow/QueryLexer$Kind;"), (0, .methodref 14 21), (0, .nameAndType 5 22), (0, u "(Lcom/example/librow/librow/QueryLexer$Kind;Ljava/lang/String;II)V"), (0, .methodref 14 24), (0, .nameAndType 25 26), (0, u "isSymbol"), (0, u "(Ljava/lang/String;)Z"), (0, .class_ 28), (0, u "java/lang/String"), (0, .methodref 27 30), (0, .nameAndType 5 31), (0, u "([C)V"), (0, .fieldref 33 34), (0, .class_ 35), (0, .nameAndType 36 37), (0, u "com/example/librow/librow/QueryLexer$Kind"), (0, u "WORD"), (0, u "Lcom/example/librow/librow/QueryLexer$Kind;"), (0, .fieldref 33 39), (0, .nameAndType 40 37), (0, u "NUMBER"), (0, .fieldref 33 42), (0, .nameAndType 43 37), (0, u "STRING"), (0, .fieldref 33 45), (0, .nameAndType 46 37), (0, u "NAMED"), (0, .fieldref 33 48), (0, .nameAndType 49 37), (0, u "POSITIONAL"), (0, .fieldref 33 51), (0, .nameAndType 52 37), (0, u "SYMBOL"), (0, .fieldref 33 54), (0, .nameAndType 55 37), (0, u "END"), (2, u "law"), (0, u "(IIIIII)Z")] 8

def k1m0 : Method := { name := "<init>", desc := "()V", sig := { parameters := [], returnType := none }, accessFlags := 1, code := none }
def k1c1 : Code := { maxStack := 6, maxLocals := 17, code := code, exceptionTable := #[], attributes := #[] }
def k1m1 : Method := { name := "law", desc := "(IIIIII)Z", sig := { parameters := [.int, .int, .int, .int, .int, .int], returnType := some .boolean }, accessFlags := 9, code := some k1c1 }
def k1c2 : Code := { maxStack := 6, maxLocals := 3, code := method_3_code, exceptionTable := #[], attributes := #[] }
def k1m2 : Method := { name := "str", desc := "(ICC)Ljava/lang/String;", sig := { parameters := [.int, .char, .char], returnType := some (.object "java/lang/String") }, accessFlags := 10, code := some k1c2 }
def k1c3 : Code := { maxStack := 2, maxLocals := 1, code := method_4_code, exceptionTable := #[], attributes := #[] }
def k1m3 : Method := { name := "kind", desc := "(I)Lcom/example/librow/librow/QueryLexer$Kind;", sig := { parameters := [.int], returnType := some (.object "com/example/librow/librow/QueryLexer$Kind") }, accessFlags := 10, code := some k1c3 }
/-- com/example/librow/librow/TokenIsSymbolPinLaw -/
def k1 : Class := { plain "com/example/librow/librow/TokenIsSymbolPinLaw" (some 0) with
  accessFlags := 49
  interfaces := #[]
  cf := some (fileOf pool1 9 #[] #[{ accessFlags := 1, nameIndex := 5, descriptorIndex := 6, attributes := #[] }, { accessFlags := 9, nameIndex := 58, descriptorIndex := 59, attributes := #[] }, { accessFlags := 10, nameIndex := 12, descriptorIndex := 13, attributes := #[] }, { accessFlags := 10, nameIndex := 18, descriptorIndex := 19, attributes := #[] }] 49 2 #[] #[])
  fields := #[]
  methods := #[k1m0, k1m1, k1m2, k1m3]
  instanceTypes := #[]
  staticTypes := #[]
  resolved := Array.replicate 68 none
  statics := none }

def pool2 : Array CpInfo := pool [(1, .class_ 2), (0, u "java/io/Serializable"), (0, .class_ 4), (0, u "java/lang/Object")] 2

/-- java/io/Serializable -/
def k2 : Class := { plain "java/io/Serializable" (some 0) with
  accessFlags := 1537
  interfaces := #[]
  cf := some (fileOf pool2 1 #[] #[] 1537 3 #[] #[])
  fields := #[]
  methods := #[]
  instanceTypes := #[]
  staticTypes := #[]
  resolved := Array.replicate 7 none
  statics := none }

def pool3 : Array CpInfo := pool [(1, .class_ 2), (0, u "java/lang/Comparable"), (0, .class_ 4), (0, u "java/lang/Object")] 7

/-- java/lang/Comparable -/
def k3 : Class := { plain "java/lang/Comparable" (some 0) with
  accessFlags := 1537
  interfaces := #[]
  cf := some (fileOf pool3 1 #[] #[] 1537 3 #[] #[])
  fields := #[]
  methods := #[]
  instanceTypes := #[]
  staticTypes := #[]
  resolved := Array.replicate 12 none
  statics := none }

def pool4 : Array CpInfo := pool [(2, .class_ 4), (1, u "java/lang/CharSequence"), (42, .class_ 48), (0, u "java/lang/CharSequence$1CodePointIterator"), (10, .class_ 60), (0, u "java/lang/CharSequence$1CharIterator"), (5, .class_ 67), (0, u "java/lang/Object")] 63

/-- java/lang/CharSequence -/
def k4 : Class := { plain "java/lang/CharSequence" (some 0) with
  accessFlags := 1537
  interfaces := #[]
  cf := some (fileOf pool4 2 #[.nestMembers #[47, 59]] #[] 1537 66 #[] #[])
  fields := #[]
  methods := #[]
  instanceTypes := #[]
  staticTypes := #[]
  resolved := Array.replicate 131 none
  statics := none }

def pool5 : Array CpInfo := pool [(1, .class_ 2), (0, u "java/lang/constant/Constable"), (0, .class_ 4), (0, u "java/lang/Object")] 6

/-- java/lang/constant/Constable -/
def k5 : Class := { plain "java/lang/constant/Constable" (some 0) with
  accessFlags := 1537
  interfaces := #[]
  cf := some (fileOf pool5 1 #[] #[] 1537 3 #[] #[])
  fields := #[]
  methods := #[]
  instanceTypes := #[]
  staticTypes := #[]
  resolved := Array.replicate 11 none
  statics := none }

def pool6 : Array CpInfo := pool [(1, .class_ 2), (0, u "java/lang/constant/ConstantDesc"), (0, .class_ 4), (0, u "java/lang/Object")] 32

/-- java/lang/constant/ConstantDesc -/
def k6 : Class := { plain "java/lang/constant/ConstantDesc" (some 0) with
  accessFlags := 1537
  interfaces := #[]
  cf := some (fileOf pool6 1 #[] #[] 1537 3 #[] #[])
  fields := #[]
  methods := #[]
  instanceTypes := #[]
  staticTypes := #[]
  resolved := Array.replicate 37 none
  statics := none }

def pool7 : Array CpInfo := pool [(1, .methodref 2 3), (0, .class_ 4), (0, .nameAndType 5 6), (0, u "java/lang/Object"), (0, u "<init>"), (0, u "()V"), (0, .string 8), (0, u ""), (0, .fieldref 10 11), (0, .class_ 12), (0, .nameAndType 13 14), (0, u "java/lang/String"), (0, u "value"), (0, u "[B"), (0, .fieldref 10 16), (0, .nameAndType 17 18), (0, u "coder"), (0, u "B"), (2, u "hash"), (0, u "I"), (2, u "hashIsZero"), (0, u "Z"), (0, .methodref 10 28), (0, .nameAndType 5 29), (0, u "([CIILjava/lang/Void;)V"), (8, .fieldref 10 39), (0, .nameAndType 40 26), (0, u "COMPACT_STRINGS"), (1, .class_ 44), (1, u "java/lang/StringUTF16"), (0, u "compress"), (1, .methodref 42 48), (0, .nameAndType 49 50), (0, u "coderFromArrayLen"), (0, u "([BI)B"), (56, .class_ 109), (1, u "java/lang/StringLatin1"), (67, .methodref 42 178), (0, .nameAndType 45 179), (0, u "([CII)[B"), (361, .methodref 107 542), (0, .nameAndType 543 544), (0, u "equals"), (0, u "([B[B)Z"), (28, u "(Ljava/lang/Object;)Z"), (1, .class_ 576), (0, u "java/lang/CharSequence"), (22, u "CASE_INSENSITIVE_ORDER"), (0, u "Ljava/util/Comparator;"), (409, u "([C)V"), (90, u "serialPersistentFields"), (0, u "[Ljava/io/ObjectStreamField;"), (0, .class_ 1104), (0, u "java/lang/String$CaseInsensitiveComparator"), (1, .class_ 1107), (0, u "java/io/Serializable"), (0, .class_ 1109), (0, u "java/lang/Comparable"), (0, .class_ 1111), (0, u "java/lang/constant/Constable"), (0, .class_ 1113), (0, u "java/lang/constant/ConstantDesc"), (2, u "serialVersionUID"), (0, u "J"), (3, u "REPL"), (0, u "C"), (2, u "LATIN1"), (1, u "UTF16")] 323

def k7m0 : Method := { name := "<init>", desc := "()V", sig := { parameters := [], returnType := none }, accessFlags := 1, code := none }
def k7c1 : Code := { maxStack := 5, maxLocals := 2, code := jdk_42_method_3_code, exceptionTable := #[], attributes := #[] }
def k7m1 : Method := { name := "<init>", desc := "([C)V", sig := { parameters := [(.array .char)], returnType := none }, accessFlags := 1, code := some k7c1 }
def k7c2 : Code := { maxStack := 2, maxLocals := 3, code := jdk_42_method_66_code, exceptionTable := #[], attributes := #[] }
def k7m2 : Method := { name := "equals", desc := "(Ljava/lang/Object;)Z", sig := { parameters := [(.object "java/lang/Object")], returnType := some .boolean }, accessFlags := 1, code := some k7c2 }
def k7c3 : Code := { maxStack := 4, maxLocals := 6, code := jdk_42_method_149_code, exceptionTable := #[], attributes := #[] }
def k7m3 : Method := { name := "<init>", desc := "([CIILjava/lang/Void;)V", sig := { parameters := [(.array .char), .int, .int, (.object "java/lang/Void")], returnType := none }, accessFlags := 2, code := some k7c3 }
/-- java/lang/String -/
def k7 : Class := { plain "java/lang/String" (some 0) with
  accessFlags := 49
  interfaces := #[2, 3, 4, 5, 6]
  cf := some (fileOf pool7 10 #[.nestMembers #[1103]] #[{ accessFlags := 1, nameIndex := 5, descriptorIndex := 6, attributes := #[] }, { accessFlags := 1, nameIndex := 5, descriptorIndex := 1010, attributes := #[] }, { accessFlags := 1, nameIndex := 543, descriptorIndex := 573, attributes := #[] }, { accessFlags := 2, nameIndex := 5, descriptorIndex := 29, attributes := #[] }] 49 2 #[1106, 1108, 575, 1110, 1112] #[{ accessFlags := 18, nameIndex := 13, descriptorIndex := 14, attributes := #[] }, { accessFlags := 18, nameIndex := 17, descriptorIndex := 18, attributes := #[] }, { accessFlags := 2, nameIndex := 21, descriptorIndex := 22, attributes := #[] }, { accessFlags := 2, nameIndex := 25, descriptorIndex := 26, attributes := #[] }, { accessFlags := 26, nameIndex := 1116, descriptorIndex := 1117, attributes := #[] }, { accessFlags := 24, nameIndex := 40, descriptorIndex := 26, attributes := #[] }, { accessFlags := 26, nameIndex := 1101, descriptorIndex := 1102, attributes := #[] }, { accessFlags := 26, nameIndex := 1121, descriptorIndex := 1122, attributes := #[] }, { accessFlags := 25, nameIndex := 599, descriptorIndex := 600, attributes := #[] }, { accessFlags := 24, nameIndex := 1125, descriptorIndex := 18, attributes := #[] }, { accessFlags := 24, nameIndex := 1127, descriptorIndex := 18, attributes := #[] }])
  fields := #[{ name := "value", type := (.array .byte), accessFlags := 18, slot := 0, constantValue := 0 }, { name := "coder", type := .byte, accessFlags := 18, slot := 1, constantValue := 0 }, { name := "hash", type := .int, accessFlags := 2, slot := 2, constantValue := 0 }, { name := "hashIsZero", type := .boolean, accessFlags := 2, slot := 3, constantValue := 0 }, { name := "serialVersionUID", type := .long, accessFlags := 26, slot := 0, constantValue := 0 }, { name := "COMPACT_STRINGS", type := .boolean, accessFlags := 24, slot := 1, constantValue := 0 }, { name := "serialPersistentFields", type := (.array (.object "java/io/ObjectStreamField")), accessFlags := 26, slot := 2, constantValue := 0 }, { name := "REPL", type := .char, accessFlags := 26, slot := 3, constantValue := 0 }, { name := "CASE_INSENSITIVE_ORDER", type := (.object "java/util/Comparator"), accessFlags := 25, slot := 4, constantValue := 0 }, { name := "LATIN1", type := .byte, accessFlags := 24, slot := 5, constantValue := 0 }, { name := "UTF16", type := .byte, accessFlags := 24, slot := 6, constantValue := 0 }]
  methods := #[k7m0, k7m1, k7m2, k7m3]
  instanceTypes := #[(.array .byte), .byte, .int, .boolean]
  staticTypes := #[.long, .boolean, (.array (.object "java/io/ObjectStreamField")), .char, (.object "java/util/Comparator"), .byte, .byte]
  resolved := Array.replicate 1451 none
  statics := some 0 }

def pool8 : Array CpInfo := pool [(6, .class_ 8), (1, u "java/lang/Object"), (0, u "<init>"), (0, u "()V"), (1, .class_ 14), (1, u "java/lang/StringUTF16"), (31, u "$assertionsDisabled"), (0, u "Z"), (13, u "HI_BYTE_SHIFT"), (0, u "I"), (2, u "LO_BYTE_SHIFT"), (49, .methodref 12 116), (0, .nameAndType 117 118), (0, u "compress"), (0, u "([CI[BII)I"), (3, u "([CII)[B"), (138, u "coderFromArrayLen"), (0, u "([BI)B"), (106, .class_ 371), (1, u "java/lang/StringUTF16$LinesSpliterator"), (58, u "MAX_LENGTH"), (196, .class_ 628), (0, u "java/lang/StringUTF16$CodePointsSpliterator"), (0, .class_ 630), (0, u "java/lang/StringUTF16$CharsSpliterator")] 4

def k8m0 : Method := { name := "<init>", desc := "()V", sig := { parameters := [], returnType := none }, accessFlags := 0, code := none }
def k8c1 : Code := { maxStack := 2, maxLocals := 2, code := jdk_52_method_15_code, exceptionTable := #[], attributes := #[] }
def k8m1 : Method := { name := "coderFromArrayLen", desc := "([BI)B", sig := { parameters := [(.array .byte), .int], returnType := some .byte }, accessFlags := 8, code := some k8c1 }
def k8c2 : Code := { maxStack := 5, maxLocals := 6, code := jdk_52_method_16_code, exceptionTable := #[], attributes := #[] }
def k8m2 : Method := { name := "compress", desc := "([CII)[B", sig := { parameters := [(.array .char), .int, .int], returnType := some (.array .byte) }, accessFlags := 9, code := some k8c2 }
def k8c3 : Code := { maxStack := 3, maxLocals := 7, code := jdk_52_method_21_code, exceptionTable := #[], attributes := #[] }
def k8m3 : Method := { name := "compress", desc := "([CI[BII)I", sig := { parameters := [(.array .char), .int, (.array .byte), .int, .int], returnType := some .int }, accessFlags := 9, code := some k8c3 }
/-- java/lang/StringUTF16 -/
def k8 : Class := { plain "java/lang/StringUTF16" (some 0) with
  accessFlags := 48
  interfaces := #[]
  cf := some (fileOf pool8 12 #[.nestMembers #[627, 629, 369]] #[{ accessFlags := 0, nameIndex := 9, descriptorIndex := 10, attributes := #[] }, { accessFlags := 8, nameIndex := 261, descriptorIndex := 262, attributes := #[] }, { accessFlags := 9, nameIndex := 117, descriptorIndex := 122, attributes := #[] }, { accessFlags := 9, nameIndex := 117, descriptorIndex := 118, attributes := #[] }] 48 6 #[] #[{ accessFlags := 26, nameIndex := 61, descriptorIndex := 62, attributes := #[] }, { accessFlags := 26, nameIndex := 65, descriptorIndex := 62, attributes := #[] }, { accessFlags := 24, nameIndex := 430, descriptorIndex := 62, attributes := #[] }, { accessFlags := 4120, nameIndex := 46, descriptorIndex := 47, attributes := #[] }])
  fields := #[{ name := "HI_BYTE_SHIFT", type := .int, accessFlags := 26, slot := 0, constantValue := 0 }, { name := "LO_BYTE_SHIFT", type := .int, accessFlags := 26, slot := 1, constantValue := 0 }, { name := "MAX_LENGTH", type := .int, accessFlags := 24, slot := 2, constantValue := 0 }, { name := "$assertionsDisabled", type := .boolean, accessFlags := 4120, slot := 3, constantValue := 0 }]
  methods := #[k8m0, k8m1, k8m2, k8m3]
  instanceTypes := #[]
  staticTypes := #[.int, .int, .int, .boolean]
  resolved := Array.replicate 635 none
  statics := none }

def pool9 : Array CpInfo := pool [(1, .methodref 2 3), (0, .class_ 4), (0, .nameAndType 5 6), (0, u "java/lang/Object"), (0, u "<init>"), (0, u "()V"), (0, .class_ 8), (0, u "java/lang/Record")] 13

def k9c0 : Code := { maxStack := 1, maxLocals := 1, code := jdk_30_method_1_code, exceptionTable := #[], attributes := #[] }
def k9m0 : Method := { name := "<init>", desc := "()V", sig := { parameters := [], returnType := none }, accessFlags := 4, code := some k9c0 }
/-- java/lang/Record -/
def k9 : Class := { plain "java/lang/Record" (some 0) with
  accessFlags := 1057
  interfaces := #[]
  cf := some (fileOf pool9 7 #[] #[{ accessFlags := 4, nameIndex := 5, descriptorIndex := 6, attributes := #[] }] 1057 2 #[] #[])
  fields := #[]
  methods := #[k9m0]
  instanceTypes := #[]
  staticTypes := #[]
  resolved := Array.replicate 22 none
  statics := none }

def pool10 : Array CpInfo := pool [(1, .methodref 2 3), (0, .class_ 4), (0, .nameAndType 5 6), (0, u "java/lang/Record"), (0, u "<init>"), (0, u "()V"), (0, .fieldref 8 9), (0, .class_ 10), (0, .nameAndType 11 12), (0, u "com/example/librow/librow/QueryLexer$Token"), (0, u "kind"), (0, u "Lcom/example/librow/librow/QueryLexer$Kind;"), (0, .fieldref 8 14), (0, .nameAndType 15 16), (0, u "text"), (0, u "Ljava/lang/String;"), (0, .fieldref 8 18), (0, .nameAndType 19 20), (0, u "position"), (0, u "I"), (0, .fieldref 8 22), (0, .nameAndType 23 20), (0, u "end"), (1, .class_ 27), (1, u "com/example/librow/librow/QueryLexer$Kind"), (2, .class_ 32), (1, u "java/lang/String"), (1, u "(Ljava/lang/String;)Z"), (0, .fieldref 25 36), (0, .nameAndType 37 12), (0, u "SYMBOL"), (0, .methodref 30 39), (0, .nameAndType 40 41), (0, u "equals"), (0, u "(Ljava/lang/Object;)Z"), (11, u "(Lcom/example/librow/librow/QueryLexer$Kind;Ljava/lang/String;II)V"), (5, u "isSymbol"), (6, .class_ 67), (0, u "com/example/librow/librow/QueryLexer")] 23

def k10c0 : Code := { maxStack := 2, maxLocals := 5, code := prog_11_method_1_code, exceptionTable := #[], attributes := #[] }
def k10m0 : Method := { name := "<init>", desc := "(Lcom/example/librow/librow/QueryLexer$Kind;Ljava/lang/String;II)V", sig := { parameters := [(.object "com/example/librow/librow/QueryLexer$Kind"), (.object "java/lang/String"), .int, .int], returnType := none }, accessFlags := 0, code := some k10c0 }
def k10c1 : Code := { maxStack := 2, maxLocals := 2, code := prog_11_method_3_code, exceptionTable := #[], attributes := #[] }
def k10m1 : Method := { name := "isSymbol", desc := "(Ljava/lang/String;)Z", sig := { parameters := [(.object "java/lang/String")], returnType := some .boolean }, accessFlags := 0, code := some k10c1 }
/-- com/example/librow/librow/QueryLexer$Token -/
def k10 : Class := { plain "com/example/librow/librow/QueryLexer$Token" (some 9) with
  accessFlags := 48
  interfaces := #[]
  cf := some (fileOf pool10 8 #[.nestHost 66] #[{ accessFlags := 0, nameIndex := 5, descriptorIndex := 53, attributes := #[] }, { accessFlags := 0, nameIndex := 59, descriptorIndex := 34, attributes := #[] }] 48 2 #[] #[{ accessFlags := 18, nameIndex := 11, descriptorIndex := 12, attributes := #[] }, { accessFlags := 18, nameIndex := 15, descriptorIndex := 16, attributes := #[] }, { accessFlags := 18, nameIndex := 19, descriptorIndex := 20, attributes := #[] }, { accessFlags := 18, nameIndex := 23, descriptorIndex := 20, attributes := #[] }])
  fields := #[{ name := "kind", type := (.object "com/example/librow/librow/QueryLexer$Kind"), accessFlags := 18, slot := 0, constantValue := 0 }, { name := "text", type := (.object "java/lang/String"), accessFlags := 18, slot := 1, constantValue := 0 }, { name := "position", type := .int, accessFlags := 18, slot := 2, constantValue := 0 }, { name := "end", type := .int, accessFlags := 18, slot := 3, constantValue := 0 }]
  methods := #[k10m0, k10m1]
  instanceTypes := #[(.object "com/example/librow/librow/QueryLexer$Kind"), (.object "java/lang/String"), .int, .int]
  staticTypes := #[]
  resolved := Array.replicate 91 none
  statics := none }

def pool11 : Array CpInfo := pool [(2, .class_ 4), (1, u "java/lang/Enum"), (0, u "name"), (0, u "Ljava/lang/String;"), (2, u "ordinal"), (0, u "I"), (1, .class_ 14), (1, u "java/lang/Object"), (4, u "hash"), (86, .class_ 108), (1, u "java/lang/Enum$EnumDesc"), (2, .class_ 112), (0, u "java/lang/constant/Constable"), (0, .class_ 114), (0, u "java/lang/Comparable"), (0, .class_ 116), (0, u "java/io/Serializable")] 87

/-- java/lang/Enum -/
def k11 : Class := { plain "java/lang/Enum" (some 0) with
  accessFlags := 1057
  interfaces := #[5, 3, 2]
  cf := some (fileOf pool11 2 #[.nestMembers #[106]] #[] 1057 12 #[111, 113, 115] #[{ accessFlags := 18, nameIndex := 5, descriptorIndex := 6, attributes := #[] }, { accessFlags := 18, nameIndex := 9, descriptorIndex := 10, attributes := #[] }, { accessFlags := 2, nameIndex := 19, descriptorIndex := 10, attributes := #[] }])
  fields := #[{ name := "name", type := (.object "java/lang/String"), accessFlags := 18, slot := 0, constantValue := 0 }, { name := "ordinal", type := .int, accessFlags := 18, slot := 1, constantValue := 0 }, { name := "hash", type := .int, accessFlags := 2, slot := 2, constantValue := 0 }]
  methods := #[]
  instanceTypes := #[(.object "java/lang/String"), .int, .int]
  staticTypes := #[]
  resolved := Array.replicate 204 none
  statics := none }

def pool12 : Array CpInfo := pool [(1, .class_ 2), (0, u "com/example/librow/librow/QueryLexer$Kind"), (2, u "WORD"), (0, u "Lcom/example/librow/librow/QueryLexer$Kind;"), (2, u "NUMBER"), (2, u "STRING"), (2, u "NAMED"), (2, u "POSITIONAL"), (2, u "SYMBOL"), (2, u "END"), (2, u "$VALUES"), (0, u "[Lcom/example/librow/librow/QueryLexer$Kind;"), (6, .class_ 37), (1, u "java/lang/Enum"), (30, .class_ 69), (0, u "com/example/librow/librow/QueryLexer")] 2

/-- com/example/librow/librow/QueryLexer$Kind -/
def k12 : Class := { plain "com/example/librow/librow/QueryLexer$Kind" (some 11) with
  accessFlags := 16432
  interfaces := #[]
  cf := some (fileOf pool12 1 #[.nestHost 68] #[] 16432 35 #[] #[{ accessFlags := 16409, nameIndex := 5, descriptorIndex := 6, attributes := #[] }, { accessFlags := 16409, nameIndex := 9, descriptorIndex := 6, attributes := #[] }, { accessFlags := 16409, nameIndex := 12, descriptorIndex := 6, attributes := #[] }, { accessFlags := 16409, nameIndex := 15, descriptorIndex := 6, attributes := #[] }, { accessFlags := 16409, nameIndex := 18, descriptorIndex := 6, attributes := #[] }, { accessFlags := 16409, nameIndex := 21, descriptorIndex := 6, attributes := #[] }, { accessFlags := 16409, nameIndex := 24, descriptorIndex := 6, attributes := #[] }, { accessFlags := 4122, nameIndex := 27, descriptorIndex := 28, attributes := #[] }])
  fields := #[{ name := "WORD", type := (.object "com/example/librow/librow/QueryLexer$Kind"), accessFlags := 16409, slot := 0, constantValue := 0 }, { name := "NUMBER", type := (.object "com/example/librow/librow/QueryLexer$Kind"), accessFlags := 16409, slot := 1, constantValue := 0 }, { name := "STRING", type := (.object "com/example/librow/librow/QueryLexer$Kind"), accessFlags := 16409, slot := 2, constantValue := 0 }, { name := "NAMED", type := (.object "com/example/librow/librow/QueryLexer$Kind"), accessFlags := 16409, slot := 3, constantValue := 0 }, { name := "POSITIONAL", type := (.object "com/example/librow/librow/QueryLexer$Kind"), accessFlags := 16409, slot := 4, constantValue := 0 }, { name := "SYMBOL", type := (.object "com/example/librow/librow/QueryLexer$Kind"), accessFlags := 16409, slot := 5, constantValue := 0 }, { name := "END", type := (.object "com/example/librow/librow/QueryLexer$Kind"), accessFlags := 16409, slot := 6, constantValue := 0 }, { name := "$VALUES", type := (.array (.object "com/example/librow/librow/QueryLexer$Kind")), accessFlags := 4122, slot := 7, constantValue := 0 }]
  methods := #[]
  instanceTypes := #[(.object "java/lang/String"), .int, .int]
  staticTypes := #[(.object "com/example/librow/librow/QueryLexer$Kind"), (.object "com/example/librow/librow/QueryLexer$Kind"), (.object "com/example/librow/librow/QueryLexer$Kind"), (.object "com/example/librow/librow/QueryLexer$Kind"), (.object "com/example/librow/librow/QueryLexer$Kind"), (.object "com/example/librow/librow/QueryLexer$Kind"), (.object "com/example/librow/librow/QueryLexer$Kind"), (.array (.object "com/example/librow/librow/QueryLexer$Kind"))]
  resolved := Array.replicate 72 none
  statics := some 1 }

def pool13 : Array CpInfo := pool [(4, .class_ 6), (1, u "java/lang/Object"), (0, u "<init>"), (0, u "()V"), (5, .class_ 16), (1, u "java/lang/StringLatin1"), (104, u "$assertionsDisabled"), (0, u "Z"), (98, .class_ 223), (1, u "java/lang/StringLatin1$LinesSpliterator"), (57, u "equals"), (0, u "([B[B)Z"), (107, .class_ 391), (0, u "java/lang/StringLatin1$CharsSpliterator")] 3

def k13m0 : Method := { name := "<init>", desc := "()V", sig := { parameters := [], returnType := none }, accessFlags := 0, code := none }
def k13c1 : Code := { maxStack := 3, maxLocals := 3, code := jdk_43_method_13_code, exceptionTable := #[], attributes := #[] }
def k13m1 : Method := { name := "equals", desc := "([B[B)Z", sig := { parameters := [(.array .byte), (.array .byte)], returnType := some .boolean }, accessFlags := 9, code := some k13c1 }
/-- java/lang/StringLatin1 -/
def k13 : Class := { plain "java/lang/StringLatin1" (some 0) with
  accessFlags := 48
  interfaces := #[]
  cf := some (fileOf pool13 14 #[.nestMembers #[390, 221]] #[{ accessFlags := 0, nameIndex := 7, descriptorIndex := 8, attributes := #[] }, { accessFlags := 9, nameIndex := 281, descriptorIndex := 282, attributes := #[] }] 48 4 #[] #[{ accessFlags := 4120, nameIndex := 121, descriptorIndex := 122, attributes := #[] }])
  fields := #[{ name := "$assertionsDisabled", type := .boolean, accessFlags := 4120, slot := 0, constantValue := 0 }]
  methods := #[k13m0, k13m1]
  instanceTypes := #[]
  staticTypes := #[.boolean]
  resolved := Array.replicate 395 none
  statics := none }

def pool14 : Array CpInfo := pool [(2, .class_ 4), (1, u "java/lang/Object"), (0, u "<init>"), (0, u "()V"), (17, .class_ 26), (1, u "jdk/internal/util/Preconditions"), (28, .class_ 56), (0, u "jdk/internal/util/Preconditions$4"), (57, .class_ 115), (0, u "jdk/internal/util/Preconditions$1"), (7, u "SIOOBE_FORMATTER"), (0, u "Ljava/util/function/BiFunction;"), (0, .class_ 126), (0, u "jdk/internal/util/Preconditions$2"), (3, u "AIOOBE_FORMATTER"), (0, .class_ 132), (0, u "jdk/internal/util/Preconditions$3"), (3, u "IOOBE_FORMATTER")] 57

def k14m0 : Method := { name := "<init>", desc := "()V", sig := { parameters := [], returnType := none }, accessFlags := 1, code := none }
/-- jdk/internal/util/Preconditions -/
def k14 : Class := { plain "jdk/internal/util/Preconditions" (some 0) with
  accessFlags := 33
  interfaces := #[]
  cf := some (fileOf pool14 24 #[.nestMembers #[55, 131, 125, 114]] #[{ accessFlags := 1, nameIndex := 5, descriptorIndex := 6, attributes := #[] }] 33 2 #[] #[{ accessFlags := 25, nameIndex := 123, descriptorIndex := 124, attributes := #[] }, { accessFlags := 25, nameIndex := 130, descriptorIndex := 124, attributes := #[] }, { accessFlags := 25, nameIndex := 136, descriptorIndex := 124, attributes := #[] }])
  fields := #[{ name := "SIOOBE_FORMATTER", type := (.object "java/util/function/BiFunction"), accessFlags := 25, slot := 0, constantValue := 0 }, { name := "AIOOBE_FORMATTER", type := (.object "java/util/function/BiFunction"), accessFlags := 25, slot := 1, constantValue := 0 }, { name := "IOOBE_FORMATTER", type := (.object "java/util/function/BiFunction"), accessFlags := 25, slot := 2, constantValue := 0 }]
  methods := #[k14m0]
  instanceTypes := #[]
  staticTypes := #[(.object "java/util/function/BiFunction"), (.object "java/util/function/BiFunction"), (.object "java/util/function/BiFunction")]
  resolved := Array.replicate 194 none
  statics := some 2 }

def pool15 : Array CpInfo := pool [(9, u "<init>"), (6, .class_ 18), (1, u "java/lang/Object"), (0, u "()V"), (1, .class_ 23), (1, u "jdk/internal/util/ArraysSupport"), (0, u "LOG2_ARRAY_LONG_INDEX_SCALE"), (0, u "I"), (2, u "U"), (0, u "Ljdk/internal/misc/Unsafe;"), (8, u "BIG_ENDIAN"), (0, u "Z"), (8, u "LOG2_BYTE_BIT_SIZE"), (4, u "LOG2_ARRAY_INT_INDEX_SCALE"), (54, u "JLA"), (0, u "Ljdk/internal/access/JavaLangAccess;"), (11, u "LOG2_ARRAY_BOOLEAN_INDEX_SCALE"), (9, u "LOG2_ARRAY_BYTE_INDEX_SCALE"), (5, u "LOG2_ARRAY_CHAR_INDEX_SCALE"), (5, u "LOG2_ARRAY_SHORT_INDEX_SCALE"), (18, u "LOG2_ARRAY_FLOAT_INDEX_SCALE"), (24, u "LOG2_ARRAY_DOUBLE_INDEX_SCALE"), (89, u "T_BOOLEAN"), (2, u "T_CHAR"), (1, u "T_FLOAT"), (1, u "T_DOUBLE"), (1, u "T_BYTE"), (1, u "T_SHORT"), (1, u "T_INT"), (1, u "T_LONG"), (1, u "SOFT_MAX_ARRAY_LENGTH")] 83

def k15m0 : Method := { name := "<init>", desc := "()V", sig := { parameters := [], returnType := none }, accessFlags := 2, code := none }
/-- jdk/internal/util/ArraysSupport -/
def k15 : Class := { plain "jdk/internal/util/ArraysSupport" (some 0) with
  accessFlags := 33
  interfaces := #[]
  cf := some (fileOf pool15 21 #[] #[{ accessFlags := 2, nameIndex := 9, descriptorIndex := 19, attributes := #[] }] 33 16 #[] #[{ accessFlags := 24, nameIndex := 28, descriptorIndex := 29, attributes := #[] }, { accessFlags := 26, nameIndex := 38, descriptorIndex := 39, attributes := #[] }, { accessFlags := 25, nameIndex := 121, descriptorIndex := 25, attributes := #[] }, { accessFlags := 25, nameIndex := 131, descriptorIndex := 25, attributes := #[] }, { accessFlags := 25, nameIndex := 137, descriptorIndex := 25, attributes := #[] }, { accessFlags := 25, nameIndex := 143, descriptorIndex := 25, attributes := #[] }, { accessFlags := 25, nameIndex := 53, descriptorIndex := 25, attributes := #[] }, { accessFlags := 25, nameIndex := 24, descriptorIndex := 25, attributes := #[] }, { accessFlags := 25, nameIndex := 162, descriptorIndex := 25, attributes := #[] }, { accessFlags := 25, nameIndex := 187, descriptorIndex := 25, attributes := #[] }, { accessFlags := 26, nameIndex := 48, descriptorIndex := 25, attributes := #[] }, { accessFlags := 25, nameIndex := 277, descriptorIndex := 25, attributes := #[] }, { accessFlags := 25, nameIndex := 280, descriptorIndex := 25, attributes := #[] }, { accessFlags := 25, nameIndex := 282, descriptorIndex := 25, attributes := #[] }, { accessFlags := 25, nameIndex := 284, descriptorIndex := 25, attributes := #[] }, { accessFlags := 25, nameIndex := 286, descriptorIndex := 25, attributes := #[] }, { accessFlags := 25, nameIndex := 288, descriptorIndex := 25, attributes := #[] }, { accessFlags := 25, nameIndex := 290, descriptorIndex := 25, attributes := #[] }, { accessFlags := 25, nameIndex := 292, descriptorIndex := 25, attributes := #[] }, { accessFlags := 26, nameIndex := 108, descriptorIndex := 109, attributes := #[] }, { accessFlags := 25, nameIndex := 294, descriptorIndex := 25, attributes := #[] }])
  fields := #[{ name := "U", type := (.object "jdk/internal/misc/Unsafe"), accessFlags := 24, slot := 0, constantValue := 0 }, { name := "BIG_ENDIAN", type := .boolean, accessFlags := 26, slot := 1, constantValue := 0 }, { name := "LOG2_ARRAY_BOOLEAN_INDEX_SCALE", type := .int, accessFlags := 25, slot := 2, constantValue := 0 }, { name := "LOG2_ARRAY_BYTE_INDEX_SCALE", type := .int, accessFlags := 25, slot := 3, constantValue := 0 }, { name := "LOG2_ARRAY_CHAR_INDEX_SCALE", type := .int, accessFlags := 25, slot := 4, constantValue := 0 }, { name := "LOG2_ARRAY_SHORT_INDEX_SCALE", type := .int, accessFlags := 25, slot := 5, constantValue := 0 }, { name := "LOG2_ARRAY_INT_INDEX_SCALE", type := .int, accessFlags := 25, slot := 6, constantValue := 0 }, { name := "LOG2_ARRAY_LONG_INDEX_SCALE", type := .int, accessFlags := 25, slot := 7, constantValue := 0 }, { name := "LOG2_ARRAY_FLOAT_INDEX_SCALE", type := .int, accessFlags := 25, slot := 8, constantValue := 0 }, { name := "LOG2_ARRAY_DOUBLE_INDEX_SCALE", type := .int, accessFlags := 25, slot := 9, constantValue := 0 }, { name := "LOG2_BYTE_BIT_SIZE", type := .int, accessFlags := 26, slot := 10, constantValue := 0 }, { name := "T_BOOLEAN", type := .int, accessFlags := 25, slot := 11, constantValue := 0 }, { name := "T_CHAR", type := .int, accessFlags := 25, slot := 12, constantValue := 0 }, { name := "T_FLOAT", type := .int, accessFlags := 25, slot := 13, constantValue := 0 }, { name := "T_DOUBLE", type := .int, accessFlags := 25, slot := 14, constantValue := 0 }, { name := "T_BYTE", type := .int, accessFlags := 25, slot := 15, constantValue := 0 }, { name := "T_SHORT", type := .int, accessFlags := 25, slot := 16, constantValue := 0 }, { name := "T_INT", type := .int, accessFlags := 25, slot := 17, constantValue := 0 }, { name := "T_LONG", type := .int, accessFlags := 25, slot := 18, constantValue := 0 }, { name := "JLA", type := (.object "jdk/internal/access/JavaLangAccess"), accessFlags := 26, slot := 19, constantValue := 0 }, { name := "SOFT_MAX_ARRAY_LENGTH", type := .int, accessFlags := 25, slot := 20, constantValue := 0 }]
  methods := #[k15m0]
  instanceTypes := #[]
  staticTypes := #[(.object "jdk/internal/misc/Unsafe"), .boolean, .int, .int, .int, .int, .int, .int, .int, .int, .int, .int, .int, .int, .int, .int, .int, .int, .int, (.object "jdk/internal/access/JavaLangAccess"), .int]
  resolved := Array.replicate 378 none
  statics := none }

def pool16 : Array CpInfo := pool [(1, u "java/lang/Cloneable"), (0, .class_ 1), (0, u "java/lang/Object"), (0, .class_ 3)] 3

/-- java/lang/Cloneable -/
def k16 : Class := { plain "java/lang/Cloneable" (some 0) with
  accessFlags := 1537
  interfaces := #[]
  cf := some (fileOf pool16 2 #[] #[] 1537 4 #[] #[])
  fields := #[]
  methods := #[]
  instanceTypes := #[]
  staticTypes := #[]
  resolved := Array.replicate 8 none
  statics := none }

/-- the primitive byte -/
def k17 : Class := { plain "byte" none with kind := .primitive 'B', accessFlags := 0x411 }
/-- [B -/
def k18 : Class := { plain "[B" (some 0) with kind := .array 17 .byte, interfaces := #[16, 2], accessFlags := 1041 }

/-- the primitive char -/
def k19 : Class := { plain "char" none with kind := .primitive 'C', accessFlags := 0x411 }
/-- [C -/
def k20 : Class := { plain "[C" (some 0) with kind := .array 19 .char, interfaces := #[16, 2], accessFlags := 1041 }

/-- the primitive int -/
def k21 : Class := { plain "int" none with kind := .primitive 'I', accessFlags := 0x411 }
/-- [I -/
def k22 : Class := { plain "[I" (some 0) with kind := .array 21 .int, interfaces := #[16, 2], accessFlags := 1041 }

def heap : Heap := #[{ cls := 7, slots := #[.long 0, .int 1, .null, .int 0, .null, .int 0, .int 0], vm := .statics 7 },
  { cls := 12, slots := #[.ref 3, .ref 4, .ref 5, .ref 6, .ref 7, .ref 8, .ref 9, .null], vm := .statics 12 },
  { cls := 14, slots := #[.null, .null, .null], vm := .statics 14 },
  { cls := 12, slots := #[.null, .int 0, .int 0], vm := .none },
  { cls := 12, slots := #[.null, .int 1, .int 0], vm := .none },
  { cls := 12, slots := #[.null, .int 2, .int 0], vm := .none },
  { cls := 12, slots := #[.null, .int 3, .int 0], vm := .none },
  { cls := 12, slots := #[.null, .int 4, .int 0], vm := .none },
  { cls := 12, slots := #[.null, .int 5, .int 0], vm := .none },
  { cls := 12, slots := #[.null, .int 6, .int 0], vm := .none }]
def classes : Array Class := #[k0, k1, k2, k3, k4, k5, k6, k7, k8, k9, k10, k11, k12, k13, k14, k15, k16, k17, k18, k19, k20, k21, k22]
def interned : List (Array UInt16 × Addr) := []
def slotsUsed : Nat := 39
def theMethod : MethodId := ⟨1, 1⟩
def args0 : Array Value := #[.int 5, .int 6, .int 7, .int 8, .int 9, .int 10]
def aboutOver (below : List Frame) : State where
  vm := { classes := classes, interned := interned.toArray }
  heap := heap
  slotsUsed := slotsUsed
  threads := #[{ frames := .invoking theMethod args0 :: below }]
def below0 : List Frame := [.native { method := ⟨0, 0⟩, args := #[] }]
def about1 : State := aboutOver below0
def p0 : Program := .bare "" "" ""
def e0 : Env := launch0.env 0 0 0
theorem w_frames : about1.frames = Frame.invoking theMethod args0 :: below0 := rfl
set_option maxRecDepth 65536 in
theorem w_args : argsFit about1.vm theMethod args0 = true := by decide +kernel
set_option maxRecDepth 65536 in
theorem w_heap : heapFits about1 = true := by decide +kernel
set_option maxRecDepth 65536 in
theorem w_runnable : about1.curStatus? = some .runnable := by decide +kernel
set_option maxRecDepth 65536 in
theorem w_alone : about1.alone = true := by decide +kernel
set_option maxRecDepth 65536 in
theorem w_named : about1.methodNamed? x = some theMethod := by decide +kernel
set_option maxRecDepth 65536 in
theorem w_hears : about1.hears theMethod below0 = true := by decide +kernel
set_option maxRecDepth 65536 in
theorem w_ripe : about1.ripe theMethod args0 below0 = true := by decide +kernel
theorem w_running : about1.status = .running := rfl
set_option maxRecDepth 65536 in
theorem w_room : about1.hasRoom e0.platform room_1 = true :=
  launch0.hasRoom_least _ room_1 (by decide +kernel) (by decide +kernel) (by decide +kernel) (by decide +kernel) (by decide +kernel) (by decide +kernel)
theorem allAtoms_all (ts : List Jvm.Cond) (a : Array Jvm.Value) (st : Jvm.State) : (allAtoms ts).before a st = ts.all (fun c => c.before a st) := by
  induction ts with
  | nil => rfl
  | cons c t ih =>
    show (Jvm.Cond.and c (allAtoms t)).before a st = _
    rw [Jvm.Cond.before_and, ih, List.all_cons]
def words1 : List Jvm.Cond := Jvm.Cond.code x code maxLocals ret :: tables_1
/-- a 'code' word, met by the world's own term for the bytes: nothing is compared byte by byte -/
theorem code_word {y : MethodName} {bytes : ByteArray} {mx : Nat} {rt : Option FieldType} {a : Array Value} {s : State} {m : MethodId} {meth : Method} {c : Code} (h1 : s.methodNamed? y = some m) (h2 : s.vm.method? m = some meth) (h3 : meth.code = some c) (h4 : c.code = bytes)
    (h5 : (c.maxLocals == mx && c.exceptionTable.isEmpty && decide (c.maxStack ≤ mostOperands) && decide (meth.sig.returnType = rt) && !meth.locks && decide (parseMethodDescriptor y.desc = some meth.sig)) = true) : (Jvm.Cond.code y bytes mx rt).before a s = true := by
  simp only [Bool.and_eq_true, beq_iff_eq, Bool.not_eq_true', decide_eq_true_eq] at h5
  obtain ⟨⟨⟨⟨⟨g1, g2⟩, g3⟩, g4⟩, g5⟩, g6⟩ := h5
  simp [Cond.before, Cond.holds, Cond.value, h1, h2, h3, h4, g1, g2, g3, g4, g5, g6]
def isCode : Jvm.Cond → Bool
  | .code _ _ _ _ => true
  | _ => false
theorem all_split {L : List Jvm.Cond} {P : Jvm.Cond → Bool} (h1 : L.all (fun c => isCode c || P c) = true) (h2 : ∀ c ∈ L.filter isCode, P c = true) : L.all P = true := by
  refine List.all_eq_true.mpr fun c hc => ?_
  have h := List.all_eq_true.mp h1 c hc
  rcases Bool.eq_false_or_eq_true (isCode c) with hi | hi
  · exact h2 c (List.mem_filter.mpr ⟨hc, hi⟩)
  · simpa [hi] using h
set_option maxRecDepth 65536 in
theorem w_c0 : (Jvm.Cond.code x code maxLocals ret).before args0 about1 = true := code_word (m := ⟨1, 1⟩) (meth := k1m1) (c := k1c1) (by decide +kernel) rfl rfl rfl (by decide +kernel)
set_option maxRecDepth 65536 in
theorem w_c1 : (Jvm.Cond.code ({ cls := "com/example/librow/librow/TokenIsSymbolPinLaw", name := "str", desc := "(ICC)Ljava/lang/String;" } : Jvm.MethodName) method_3_code (3 : Nat) (Option.some (Jvm.ClassFile.FieldType.object "java/lang/String"))).before args0 about1 = true := code_word (m := ⟨1, 2⟩) (meth := k1m2) (c := k1c2) (by decide +kernel) rfl rfl rfl (by decide +kernel)
set_option maxRecDepth 65536 in
theorem w_c2 : (Jvm.Cond.code ({ cls := "java/lang/String", name := "<init>", desc := "([C)V" } : Jvm.MethodName) jdk_42_method_3_code (2 : Nat) (Option.none : Option Jvm.ClassFile.FieldType)).before args0 about1 = true := code_word (m := ⟨7, 1⟩) (meth := k7m1) (c := k7c1) (by decide +kernel) rfl rfl rfl (by decide +kernel)
set_option maxRecDepth 65536 in
theorem w_c3 : (Jvm.Cond.code ({ cls := "java/lang/String", name := "<init>", desc := "([CIILjava/lang/Void;)V" } : Jvm.MethodName) jdk_42_method_149_code (6 : Nat) (Option.none : Option Jvm.ClassFile.FieldType)).before args0 about1 = true := code_word (m := ⟨7, 3⟩) (meth := k7m3) (c := k7c3) (by decide +kernel) rfl rfl rfl (by decide +kernel)
set_option maxRecDepth 65536 in
theorem w_c4 : (Jvm.Cond.code ({ cls := "java/lang/Object", name := "<init>", desc := "()V" } : Jvm.MethodName) object_method_1_code (1 : Nat) (Option.none : Option Jvm.ClassFile.FieldType)).before args0 about1 = true := code_word (m := ⟨0, 0⟩) (meth := k0m0) (c := k0c0) (by decide +kernel) rfl rfl rfl (by decide +kernel)
set_option maxRecDepth 65536 in
theorem w_c5 : (Jvm.Cond.code ({ cls := "java/lang/StringUTF16", name := "compress", desc := "([CII)[B" } : Jvm.MethodName) jdk_52_method_16_code (6 : Nat) (Option.some (Jvm.ClassFile.FieldType.array Jvm.ClassFile.FieldType.byte))).before args0 about1 = true := code_word (m := ⟨8, 2⟩) (meth := k8m2) (c := k8c2) (by decide +kernel) rfl rfl rfl (by decide +kernel)
set_option maxRecDepth 65536 in
theorem w_c6 : (Jvm.Cond.code ({ cls := "java/lang/StringUTF16", name := "compress", desc := "([CI[BII)I" } : Jvm.MethodName) jdk_52_method_21_code (7 : Nat) (Option.some Jvm.ClassFile.FieldType.int)).before args0 about1 = true := code_word (m := ⟨8, 3⟩) (meth := k8m3) (c := k8c3) (by decide +kernel) rfl rfl rfl (by decide +kernel)
set_option maxRecDepth 65536 in
theorem w_c7 : (Jvm.Cond.code ({ cls := "java/lang/StringUTF16", name := "coderFromArrayLen", desc := "([BI)B" } : Jvm.MethodName) jdk_52_method_15_code (2 : Nat) (Option.some Jvm.ClassFile.FieldType.byte)).before args0 about1 = true := code_word (m := ⟨8, 1⟩) (meth := k8m1) (c := k8c1) (by decide +kernel) rfl rfl rfl (by decide +kernel)
set_option maxRecDepth 65536 in
theorem w_c8 : (Jvm.Cond.code ({ cls := "com/example/librow/librow/TokenIsSymbolPinLaw", name := "kind", desc := "(I)Lcom/example/librow/librow/QueryLexer$Kind;" } : Jvm.MethodName) method_4_code (1 : Nat) (Option.some (Jvm.ClassFile.FieldType.object "com/example/librow/librow/QueryLexer$Kind"))).before args0 about1 = true := code_word (m := ⟨1, 3⟩) (meth := k1m3) (c := k1c3) (by decide +kernel) rfl rfl rfl (by decide +kernel)
set_option maxRecDepth 65536 in
theorem w_c9 : (Jvm.Cond.code ({ cls := "com/example/librow/librow/QueryLexer$Token", name := "<init>", desc := "(Lcom/example/librow/librow/QueryLexer$Kind;Ljava/lang/String;II)V" } : Jvm.MethodName) prog_11_method_1_code (5 : Nat) (Option.none : Option Jvm.ClassFile.FieldType)).before args0 about1 = true := code_word (m := ⟨10, 0⟩) (meth := k10m0) (c := k10c0) (by decide +kernel) rfl rfl rfl (by decide +kernel)
set_option maxRecDepth 65536 in
theorem w_c10 : (Jvm.Cond.code ({ cls := "java/lang/Record", name := "<init>", desc := "()V" } : Jvm.MethodName) jdk_30_method_1_code (1 : Nat) (Option.none : Option Jvm.ClassFile.FieldType)).before args0 about1 = true := code_word (m := ⟨9, 0⟩) (meth := k9m0) (c := k9c0) (by decide +kernel) rfl rfl rfl (by decide +kernel)
set_option maxRecDepth 65536 in
theorem w_c11 : (Jvm.Cond.code ({ cls := "com/example/librow/librow/QueryLexer$Token", name := "isSymbol", desc := "(Ljava/lang/String;)Z" } : Jvm.MethodName) prog_11_method_3_code (2 : Nat) (Option.some Jvm.ClassFile.FieldType.boolean)).before args0 about1 = true := code_word (m := ⟨10, 1⟩) (meth := k10m1) (c := k10c1) (by decide +kernel) rfl rfl rfl (by decide +kernel)
set_option maxRecDepth 65536 in
theorem w_c12 : (Jvm.Cond.code ({ cls := "java/lang/String", name := "equals", desc := "(Ljava/lang/Object;)Z" } : Jvm.MethodName) jdk_42_method_66_code (3 : Nat) (Option.some Jvm.ClassFile.FieldType.boolean)).before args0 about1 = true := code_word (m := ⟨7, 2⟩) (meth := k7m2) (c := k7c2) (by decide +kernel) rfl rfl rfl (by decide +kernel)
set_option maxRecDepth 65536 in
theorem w_c13 : (Jvm.Cond.code ({ cls := "java/lang/StringLatin1", name := "equals", desc := "([B[B)Z" } : Jvm.MethodName) jdk_43_method_13_code (3 : Nat) (Option.some Jvm.ClassFile.FieldType.boolean)).before args0 about1 = true := code_word (m := ⟨13, 1⟩) (meth := k13m1) (c := k13c1) (by decide +kernel) rfl rfl rfl (by decide +kernel)
def codes1 : List Jvm.Cond := [Jvm.Cond.code x code maxLocals ret, Jvm.Cond.code ({ cls := "com/example/librow/librow/TokenIsSymbolPinLaw", name := "str", desc := "(ICC)Ljava/lang/String;" } : Jvm.MethodName) method_3_code (3 : Nat) (Option.some (Jvm.ClassFile.FieldType.object "java/lang/String")), Jvm.Cond.code ({ cls := "java/lang/String", name := "<init>", desc := "([C)V" } : Jvm.MethodName) jdk_42_method_3_code (2 : Nat) (Option.none : Option Jvm.ClassFile.FieldType), Jvm.Cond.code ({ cls := "java/lang/String", name := "<init>", desc := "([CIILjava/lang/Void;)V" } : Jvm.MethodName) jdk_42_method_149_code (6 : Nat) (Option.none : Option Jvm.ClassFile.FieldType), Jvm.Cond.code ({ cls := "java/lang/Object", name := "<init>", desc := "()V" } : Jvm.MethodName) object_method_1_code (1 : Nat) (Option.none : Option Jvm.ClassFile.FieldType), Jvm.Cond.code ({ cls := "java/lang/StringUTF16", name := "compress", desc := "([CII)[B" } : Jvm.MethodName) jdk_52_method_16_code (6 : Nat) (Option.some (Jvm.ClassFile.FieldType.array Jvm.ClassFile.FieldType.byte)), Jvm.Cond.code ({ cls := "java/lang/StringUTF16", name := "compress", desc := "([CI[BII)I" } : Jvm.MethodName) jdk_52_method_21_code (7 : Nat) (Option.some Jvm.ClassFile.FieldType.int), Jvm.Cond.code ({ cls := "java/lang/StringUTF16", name := "coderFromArrayLen", desc := "([BI)B" } : Jvm.MethodName) jdk_52_method_15_code (2 : Nat) (Option.some Jvm.ClassFile.FieldType.byte), Jvm.Cond.code ({ cls := "com/example/librow/librow/TokenIsSymbolPinLaw", name := "kind", desc := "(I)Lcom/example/librow/librow/QueryLexer$Kind;" } : Jvm.MethodName) method_4_code (1 : Nat) (Option.some (Jvm.ClassFile.FieldType.object "com/example/librow/librow/QueryLexer$Kind")), Jvm.Cond.code ({ cls := "com/example/librow/librow/QueryLexer$Token", name := "<init>", desc := "(Lcom/example/librow/librow/QueryLexer$Kind;Ljava/lang/String;II)V" } : Jvm.MethodName) prog_11_method_1_code (5 : Nat) (Option.none : Option Jvm.ClassFile.FieldType), Jvm.Cond.code ({ cls := "java/lang/Record", name := "<init>", desc := "()V" } : Jvm.MethodName) jdk_30_method_1_code (1 : Nat) (Option.none : Option Jvm.ClassFile.FieldType), Jvm.Cond.code ({ cls := "com/example/librow/librow/QueryLexer$Token", name := "isSymbol", desc := "(Ljava/lang/String;)Z" } : Jvm.MethodName) prog_11_method_3_code (2 : Nat) (Option.some Jvm.ClassFile.FieldType.boolean), Jvm.Cond.code ({ cls := "java/lang/String", name := "equals", desc := "(Ljava/lang/Object;)Z" } : Jvm.MethodName) jdk_42_method_66_code (3 : Nat) (Option.some Jvm.ClassFile.FieldType.boolean), Jvm.Cond.code ({ cls := "java/lang/StringLatin1", name := "equals", desc := "([B[B)Z" } : Jvm.MethodName) jdk_43_method_13_code (3 : Nat) (Option.some Jvm.ClassFile.FieldType.boolean)]
set_option maxRecDepth 65536 in
theorem codes_eq : words1.filter isCode = codes1 := rfl
theorem w_codes : ∀ c ∈ words1.filter isCode, c.before args0 about1 = true := by
  rw [codes_eq]
  intro c hc
  simp only [codes1, List.mem_cons, List.not_mem_nil, or_false] at hc
  rcases hc with rfl | rfl | rfl | rfl | rfl | rfl | rfl | rfl | rfl | rfl | rfl | rfl | rfl | rfl
  · exact w_c0
  · exact w_c1
  · exact w_c2
  · exact w_c3
  · exact w_c4
  · exact w_c5
  · exact w_c6
  · exact w_c7
  · exact w_c8
  · exact w_c9
  · exact w_c10
  · exact w_c11
  · exact w_c12
  · exact w_c13
set_option maxRecDepth 65536 in
theorem w_t1 : (words1.take 24).all (fun c => isCode c || c.before args0 about1) = true := by decide +kernel
set_option maxRecDepth 65536 in
theorem w_t2 : ((words1.drop 24).take 24).all (fun c => isCode c || c.before args0 about1) = true := by decide +kernel
set_option maxRecDepth 65536 in
theorem w_t3 : (((words1.drop 24).drop 24).take 24).all (fun c => isCode c || c.before args0 about1) = true := by decide +kernel
set_option maxRecDepth 65536 in
theorem w_t4 : (((words1.drop 24).drop 24).drop 24).all (fun c => isCode c || c.before args0 about1) = true := by decide +kernel
theorem w_tables : (allAtoms (Jvm.Cond.code x code maxLocals ret :: tables_1)).before args0 about1 = true := by
  rw [allAtoms_all]
  show words1.all (fun c => c.before args0 about1) = true
  refine all_split ?_ w_codes
  rw [← List.take_append_drop 24 words1, List.all_append, w_t1, ← List.take_append_drop 24 (words1.drop 24), List.all_append, w_t2, ← List.take_append_drop 24 ((words1.drop 24).drop 24), List.all_append, w_t3, w_t4]
  rfl
set_option maxRecDepth 65536 in
theorem w_rest : rest_1_c.before args0 about1 = true := by decide +kernel
set_option maxRecDepth 65536 in
theorem w_case : (Jvm.Cond.and given_1 narrow_1).before args0 about1 = true := by decide +kernel
set_option maxRecDepth 65536 in
theorem w_consts : constsHeld consts_1 about1 := Jvm.Lit.constsHeldB_iff.mp (by decide +kernel)
theorem w_applies : (headSpec (Jvm.Cond.code x code maxLocals ret :: tables_1) room_1).applies x e0.platform about1 = true :=
  (Spec.applies_iff w_frames).mpr ⟨w_running, w_runnable, w_alone, w_named, w_hears, w_ripe, w_room, w_tables⟩
theorem atStart : AtStart classFile x code maxLocals ret World_1 tables_1 room_1 Calls_1 rest_1 Pre_1 launch0 p0 e0 about1 theMethod args0 below0 :=
  ⟨lists_1, trivial, launch0.admits_env _ _ _, launch0.least_env, fairChoices_fair.cas, fairChoices_fair.clock, w_frames, w_args, w_heap, w_applies, ⟨w_consts, trivial⟩, w_rest, w_case⟩
end start1
theorem witness_1 : WitnessClaimed_1 := ⟨start1.p0, start1.e0, start1.about1, start1.theMethod, start1.args0, start1.below0, start1.atStart⟩
end Jvm.Pilot.@@N@@
