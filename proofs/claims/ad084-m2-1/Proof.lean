import JvmDerived
import JvmDerived.Pilot.@@N@@Statement
import JvmDerived.Pilot.@@N@@Code
set_option linter.unusedVariables false
set_option linter.unusedSimpArgs false
/- laws to paste: Road.backV, Road.eqW, Road.codOf (cut by pick.py; bodies as the Statement names them) -/
namespace Jvm.Pilot.@@N@@
namespace StrChars
open Jvm Sem ClassFile Op Lib Jvm.Stand Jvm.Free.XT Jvm.Free.ALB Jvm.Free.JM Jvm.Free
open Jvm.Lib.Cold (StaticIs)
/-- a char array whose places are chars -/
def Ch (a : Addr) (A : Cell) (U : State) : Prop := Arr .char a A U ∧ Typed .char A
theorem Ch.mv {a : Addr} {A : Cell} {U U' : State} (h : Ch a A U) (hal : U.vm.Alike U'.vm) (hh : U'.heap = U.heap) : Ch a A U' := ⟨h.1.mv hal hh, h.2⟩
theorem Ch.keep {a : Addr} {A : Cell} {U U' : State} (h : Ch a A U) (hal : U.vm.Alike U'.vm) (hk : U'.heap[a]? = some A) : Ch a A U' := ⟨h.1.keep hal hk, h.2⟩
/-- what place i of a char[]'s cell holds -/
def cv (A : Cell) (i : Nat) : Int32 := match A.slots[i]? with | some (.int x) => x | _ => 0
theorem Ch.get {a : Addr} {A : Cell} {U : State} (h : Ch a A U) {i : Nat} (hi : i < A.slots.size) : A.slots[i]? = some (.int (cv A i)) := by
  have e := Array.getElem?_eq_getElem hi
  have f := h.2 i _ e
  unfold cv; rw [e]
  generalize A.slots[i] = v at f
  cases v <;> simp [fits] at f ⊢
/-- the byte that i2b leaves of a char -/
def lo8 (x : Int32) : Int32 := x.toInt8.toInt32
theorem fits_lo8 (y : Int32) : fits .byte (.int (lo8 y)) = true := by
  have h1 := y.toInt8.le_toInt
  have h2 := y.toInt8.toInt_lt
  simp only [lo8, fits, Bool.and_eq_true, decide_eq_true_eq, Int32.le_iff_toInt_le, Int8.toInt_toInt32, show (-128 : Int32).toInt = -128 from by decide, show (127 : Int32).toInt = 127 from by decide]
  omega
/-- A' is A but that each place j of lo .. hi - 1 holds f j -/
def Laid (A A' : Cell) (lo hi : Nat) (f : Nat → Value) : Prop := A'.cls = A.cls ∧ A'.vm = A.vm ∧ A'.slots.size = A.slots.size ∧ ∀ i, A'.slots[i]? = if lo ≤ i ∧ i < hi then some (f i) else A.slots[i]?
theorem Laid.zero (A : Cell) (lo : Nat) (f : Nat → Value) : Laid A A lo (lo + 0) f := ⟨rfl, rfl, rfl, fun i => by rw [if_neg (by omega)]⟩
theorem Laid.step {A Ak : Cell} {lo k : Nat} {f : Nat → Value} {v : Value} (h : Laid A Ak lo k f) (hlo : lo ≤ k) (hk : k < Ak.slots.size) (hv : v = f k) : Laid A (Ak.setSlot k v) lo (k + 1) f := by
  refine ⟨h.1, h.2.1, by simpa [Cell.setSlot] using h.2.2.1, fun i => ?_⟩
  by_cases e : k = i
  · subst e; rw [Cell.slots_setSlot_self v hk, if_pos (by omega), hv]
  · rw [Cell.slots_setSlot_ne v e, h.2.2.2 i]
    by_cases q : lo ≤ i ∧ i < k
    · rw [if_pos q, if_pos (by omega)]
    · rw [if_neg q, if_neg (by omega)]
def U16 : String := "java/lang/StringUTF16"
namespace Cmp5
def yN : MethodName := ⟨"java/lang/StringUTF16", "compress", "([CI[BII)I"⟩
abbrev yB : ByteArray := jdk_52_method_21_code
theorem d0 : decode yB 0 = .ok (.iconst 0, 1) := by decide +kernel
theorem d1 : decode yB 1 = .ok (.istore 5, 2) := by decide +kernel
theorem d3 : decode yB 3 = .ok (.iload 5, 2) := by decide +kernel
theorem d5 : decode yB 5 = .ok (.iload 4, 2) := by decide +kernel
theorem d7 : decode yB 7 = .ok (.if_icmp (.ge) 37, 3) := by decide +kernel
theorem d10 : decode yB 10 = .ok (.aload_n 0, 1) := by decide +kernel
theorem d11 : decode yB 11 = .ok (.iload_n 1, 1) := by decide +kernel
theorem d12 : decode yB 12 = .ok (.caload, 1) := by decide +kernel
theorem d13 : decode yB 13 = .ok (.istore 6, 2) := by decide +kernel
theorem d15 : decode yB 15 = .ok (.iload 6, 2) := by decide +kernel
theorem d17 : decode yB 17 = .ok (.sipush 255, 3) := by decide +kernel
theorem d20 : decode yB 20 = .ok (.if_icmp (.le) 6, 3) := by decide +kernel
theorem d26 : decode yB 26 = .ok (.aload_n 2, 1) := by decide +kernel
theorem d27 : decode yB 27 = .ok (.iload_n 3, 1) := by decide +kernel
theorem d28 : decode yB 28 = .ok (.iload 6, 2) := by decide +kernel
theorem d30 : decode yB 30 = .ok (.i2b, 1) := by decide +kernel
theorem d31 : decode yB 31 = .ok (.bastore, 1) := by decide +kernel
theorem d32 : decode yB 32 = .ok (.iinc 1 1, 3) := by decide +kernel
theorem d35 : decode yB 35 = .ok (.iinc 3 1, 3) := by decide +kernel
theorem d38 : decode yB 38 = .ok (.iinc 5 1, 3) := by decide +kernel
theorem d41 : decode yB 41 = .ok (.goto (-38), 3) := by decide +kernel
theorem d44 : decode yB 44 = .ok (.iload 4, 2) := by decide +kernel
theorem d46 : decode yB 46 = .ok (.ireturn, 1) := by decide +kernel
def site : List Cond := []
def tab : Cond := tabOf yN yB 7 (some .int) site
def P (b : Addr) (A : Cell) (d : Addr) (B : Cell) (o q len : Nat) (args : Array Value) (s : State) : Prop := args = #[.ref b, .int (Int32.ofNat o), .ref d, .int (Int32.ofNat q), .int (Int32.ofNat len)] ∧ Ch b A s ∧ Arr .byte d B s ∧ b ≠ d ∧ o + len ≤ A.slots.size ∧ q + len ≤ B.slots.size ∧ ∀ i, i < len → ¬ 255 < cv A (o + i)
def E (b : Addr) (A : Cell) (d : Addr) (B : Cell) (o q len : Nat) (r : Option Value) (s u : State) : Prop := r = some (.int (Int32.ofNat len)) ∧ ∃ B', Put d B' s u ∧ Laid B B' q (q + len) (fun j => Value.int (lo8 (cv A (o + (j - q)))))
/-- no char of the range above 255: len; the places written hold each char's low byte -/
theorem law (l : Launch) (b : Addr) (A : Cell) (d : Addr) (B : Cell) (o q len : Nat) : Law l yN 5 5 0 0 yB 7 (some .int) site (P b A d B o q len) (E b A d B o q len) (copyLocs d q len) 0 0 := by
  refine Law.of_walk (plainFor_of_name (by decide +kernel)) (by decide +kernel) (by decide +kernel) (by decide) (fun _ _ h => by rw [h.1]; rfl) (fun _ U U' hal hh h => ⟨h.1, h.2.1.mv hal hh, h.2.2.1.mv hal hh, h.2.2.2⟩) (fun r U U' V V' h1 hal h2 h => ⟨h.1, h.2.elim fun B' q => ⟨B', q.1.mv h1 h2, q.2⟩⟩) ?_
  intro p e s m args below meth c s₁ X0 hexec hbytes hml hret hlk hnm hown hh0 W hP
  obtain ⟨rfl, hA, hB, hne, l1, l2, hp⟩ := hP
  have c1 : Steps p.tables e below (s₁.setTop (entryFrame m #[.ref b, .int (Int32.ofNat o), .ref d, .int (Int32.ofNat q), .int (Int32.ofNat len)] 7)) (s₁.setTop (mkF m 0 #[.val (.ref b), .val (.int (Int32.ofNat o)), .val (.ref d), .val (.int (Int32.ofNat q)), .val (.int (Int32.ofNat len)), .unset, .unset] [])) := entry rfl
  have hA0 := hA.1.mv X0.warmed.alike hh0
  have hB0 := hB.mv X0.warmed.alike hh0
  have a31 := hA.1.2.2.2
  have c2 : Steps p.tables e below (s₁.setTop (entryFrame m #[.ref b, .int (Int32.ofNat o), .ref d, .int (Int32.ofNat q), .int (Int32.ofNat len)] 7)) (s₁.setTop (mkF m 3 #[.val (.ref b), .val (.int (Int32.ofNat o)), .val (.ref d), .val (.int (Int32.ofNat q)), .val (.int (Int32.ofNat len)), .val (.int 0), .unset] [])) := c1.trans (by
    refine iconstV X0.here hexec rfl 0 (hb hbytes d0) (by decide) ?_
    refine XS.istore X0.here hexec rfl (hb hbytes d1) rfl rfl ?_
    exact Steps.refl _)
  have loop : ∀ (r i : Nat), i + r = len → ∀ (z : Slot), (z = .unset ∨ ∃ w, z = .val w ∧ w.category = 1) → ∀ (Tl : State) (Bk : Cell), Stand p l e { frames := 0, locals := 0, cells := 0, slots := 0 } s m #[.ref b, .int (Int32.ofNat o), .ref d, .int (Int32.ofNat q), .int (Int32.ofNat len)] below meth c Tl ([] ++ copyLocs d q i) 0 0 → Put d Bk s₁ Tl → Laid B Bk q (q + i) (fun j => Value.int (lo8 (cv A (o + (j - q))))) →
      Steps p.tables e below (s₁.setTop (entryFrame m #[.ref b, .int (Int32.ofNat o), .ref d, .int (Int32.ofNat q), .int (Int32.ofNat len)] 7)) (Tl.setTop (mkF m 3 #[.val (.ref b), .val (.int (Int32.ofNat (o + i))), .val (.ref d), .val (.int (Int32.ofNat (q + i))), .val (.int (Int32.ofNat len)), .val (.int (Int32.ofNat i)), z] [])) → ∃ (T' : State) (B' : Cell) (z' : Slot), Stand p l e { frames := 0, locals := 0, cells := 0, slots := 0 } s m #[.ref b, .int (Int32.ofNat o), .ref d, .int (Int32.ofNat q), .int (Int32.ofNat len)] below meth c T' ([] ++ copyLocs d q len) 0 0 ∧ Put d B' s₁ T' ∧ Laid B B' q (q + len) (fun j => Value.int (lo8 (cv A (o + (j - q))))) ∧
      Steps p.tables e below (s₁.setTop (entryFrame m #[.ref b, .int (Int32.ofNat o), .ref d, .int (Int32.ofNat q), .int (Int32.ofNat len)] 7)) (T'.setTop (mkF m 3 #[.val (.ref b), .val (.int (Int32.ofNat (o + len))), .val (.ref d), .val (.int (Int32.ofNat (q + len))), .val (.int (Int32.ofNat len)), .val (.int (Int32.ofNat len)), z'] [])) := by
    intro r
    induction r with
    | zero =>
      intro i hi z hz Tl Bk Xl pl fl cl
      have hil : i = len := by omega
      rw [hil] at Xl fl cl
      exact ⟨Tl, Bk, z, Xl, pl, fl, cl⟩
    | succ r ih =>
      intro i hi z hz Tl Bk Xl pl fl cl
      have all := X0.warmed.alike.symm.trans Xl.warmed.alike
      have hAl := hA0.keep all (pl.other hne hA0.1)
      have hBk := hB0.like all pl.1 fl.1 fl.2.1 fl.2.2.1
      have hlt : q + i < Bk.slots.size := by rw [fl.2.2.1]; omega
      have c3 : Steps p.tables e below (s₁.setTop (entryFrame m #[.ref b, .int (Int32.ofNat o), .ref d, .int (Int32.ofNat q), .int (Int32.ofNat len)] 7)) (Tl.setTop (mkF m 12 #[.val (.ref b), .val (.int (Int32.ofNat (o + i))), .val (.ref d), .val (.int (Int32.ofNat (q + i))), .val (.int (Int32.ofNat len)), .val (.int (Int32.ofNat i)), z] [.int (Int32.ofNat (o + i)), .ref b])) := cl.trans (by
        refine XS.iload Xl.here hexec rfl (hb hbytes d3) rfl ?_
        refine XS.iload Xl.here hexec rfl (hb hbytes d5) rfl ?_
        refine XS.icmpNo Xl.here hexec rfl (hb hbytes d7) rfl (ii_ge_f (lt32 (by omega) (by omega))) ?_
        refine XS.aloadN Xl.here hexec rfl (hb hbytes d10) rfl rfl ?_
        refine XS.iloadN Xl.here hexec rfl (hb hbytes d11) rfl ?_
        exact Steps.refl _)
      have c4 : Steps p.tables e below (s₁.setTop (entryFrame m #[.ref b, .int (Int32.ofNat o), .ref d, .int (Int32.ofNat q), .int (Int32.ofNat len)] 7)) (Tl.setTop (mkF m 13 #[.val (.ref b), .val (.int (Int32.ofNat (o + i))), .val (.ref d), .val (.int (Int32.ofNat (q + i))), .val (.int (Int32.ofNat len)), .val (.int (Int32.ofNat i)), z] [.int (cv A (o + i))])) := c3.trans (by
        refine Xl.aget hexec hAl rfl (hA.get (i := o + i) (by omega)) rfl rfl (hb hbytes d12) ?_
        exact Steps.refl _)
      have c5 : Steps p.tables e below (s₁.setTop (entryFrame m #[.ref b, .int (Int32.ofNat o), .ref d, .int (Int32.ofNat q), .int (Int32.ofNat len)] 7)) (Tl.setTop (mkF m 15 #[.val (.ref b), .val (.int (Int32.ofNat (o + i))), .val (.ref d), .val (.int (Int32.ofNat (q + i))), .val (.int (Int32.ofNat len)), .val (.int (Int32.ofNat i)), .val (.int (cv A (o + i)))] [])) := c4.trans (by
        refine XS.istoreS Xl.here hexec rfl (hb hbytes d13) rfl rfl hz ?_
        exact Steps.refl _)
      have c6 : Steps p.tables e below (s₁.setTop (entryFrame m #[.ref b, .int (Int32.ofNat o), .ref d, .int (Int32.ofNat q), .int (Int32.ofNat len)] 7)) (Tl.setTop (mkF m 31 #[.val (.ref b), .val (.int (Int32.ofNat (o + i))), .val (.ref d), .val (.int (Int32.ofNat (q + i))), .val (.int (Int32.ofNat len)), .val (.int (Int32.ofNat i)), .val (.int (cv A (o + i)))] [.int (lo8 (cv A (o + i))), .int (Int32.ofNat (q + i)), .ref d])) := c5.trans (by
        refine XS.iload Xl.here hexec rfl (hb hbytes d15) rfl ?_
        refine sipushV Xl.here hexec rfl 255 (hb hbytes d17) (by decide) ?_
        refine XS.icmpYes Xl.here hexec rfl (pc0 := 20) rfl (hb hbytes d20) rfl (ii_le_t (hp i (by omega))) (by decide) rfl ?_
        refine XS.aloadN Xl.here hexec rfl (hb hbytes d26) rfl rfl ?_
        refine XS.iloadN Xl.here hexec rfl (hb hbytes d27) rfl ?_
        refine XS.iload Xl.here hexec rfl (hb hbytes d28) rfl ?_
        refine i2b Xl.here hexec rfl (hb hbytes d30) rfl ?_
        exact Steps.refl _)
      obtain ⟨T7, X7, p7, st7⟩ := Xl.aput hexec hBk rfl hlt rfl (fits_lo8 (cv A (o + i))) (g := (mkF m 31 #[.val (.ref b), .val (.int (Int32.ofNat (o + i))), .val (.ref d), .val (.int (Int32.ofNat (q + i))), .val (.int (Int32.ofNat len)), .val (.int (Int32.ofNat i)), .val (.int (cv A (o + i)))] [.int (lo8 (cv A (o + i))), .int (Int32.ofNat (q + i)), .ref d])) rfl (rest := []) rfl (hb hbytes d31)
      have c8 : Steps p.tables e below (s₁.setTop (entryFrame m #[.ref b, .int (Int32.ofNat o), .ref d, .int (Int32.ofNat q), .int (Int32.ofNat len)] 7)) (T7.setTop (mkF m 32 #[.val (.ref b), .val (.int (Int32.ofNat (o + i))), .val (.ref d), .val (.int (Int32.ofNat (q + i))), .val (.int (Int32.ofNat len)), .val (.int (Int32.ofNat i)), .val (.int (cv A (o + i)))] [])) := c6.trans (st7 _ (Steps.refl _))
      have c9 : Steps p.tables e below (s₁.setTop (entryFrame m #[.ref b, .int (Int32.ofNat o), .ref d, .int (Int32.ofNat q), .int (Int32.ofNat len)] 7)) (T7.setTop (mkF m 3 #[.val (.ref b), .val (.int (Int32.ofNat (o + i) + 1)), .val (.ref d), .val (.int (Int32.ofNat (q + i) + 1)), .val (.int (Int32.ofNat len)), .val (.int (Int32.ofNat i + 1)), .val (.int (cv A (o + i)))] [])) := c8.trans (by
        refine iincV X7.here hexec rfl 1 (hb hbytes d32) (by decide) rfl rfl ?_
        refine iincV X7.here hexec rfl 1 (hb hbytes d35) (by decide) rfl rfl ?_
        refine iincV X7.here hexec rfl 1 (hb hbytes d38) (by decide) rfl rfl ?_
        refine XS.goto X7.here hexec rfl (pc0 := 41) rfl (hb hbytes d41) (by decide) rfl ?_
        exact Steps.refl _)
      have c10 : Steps p.tables e below (s₁.setTop (entryFrame m #[.ref b, .int (Int32.ofNat o), .ref d, .int (Int32.ofNat q), .int (Int32.ofNat len)] 7)) (T7.setTop (mkF m 3 #[.val (.ref b), .val (.int (Int32.ofNat (o + (i + 1)))), .val (.ref d), .val (.int (Int32.ofNat (q + (i + 1)))), .val (.int (Int32.ofNat len)), .val (.int (Int32.ofNat (i + 1))), .val (.int (cv A (o + i)))] [])) := by
        have := c9
        rw [succ32, succ32, succ32] at this
        exact this
      exact ih (i + 1) (by omega) _ (Or.inr ⟨_, rfl, rfl⟩) T7 _ (by rw [copyLocs_step, ← List.append_assoc]; exact X7) (pl.trans p7) (fl.step (by omega) hlt (by simp)) c10
  obtain ⟨T9, B9, z9, X9, p9, f9, g9⟩ := loop len 0 (by omega) .unset (Or.inl rfl) s₁ B (by simpa [copyLocs] using X0) ⟨hB0.1, fun _ _ => rfl, rfl⟩ (Laid.zero _ _ _) c2
  have c11 : Steps p.tables e below (s₁.setTop (entryFrame m #[.ref b, .int (Int32.ofNat o), .ref d, .int (Int32.ofNat q), .int (Int32.ofNat len)] 7)) (T9.setTop (mkF m 46 #[.val (.ref b), .val (.int (Int32.ofNat (o + len))), .val (.ref d), .val (.int (Int32.ofNat (q + len))), .val (.int (Int32.ofNat len)), .val (.int (Int32.ofNat len)), z9] [.int (Int32.ofNat len)])) := g9.trans (by
    refine XS.iload X9.here hexec rfl (hb hbytes d3) rfl ?_
    refine XS.iload X9.here hexec rfl (hb hbytes d5) rfl ?_
    refine XS.icmpYes X9.here hexec rfl (pc0 := 7) rfl (hb hbytes d7) rfl (ii_ge_t (nlt32 (by omega) (Nat.le_refl _))) (by decide) rfl ?_
    refine XS.iload X9.here hexec rfl (hb hbytes d44) rfl ?_
    exact Steps.refl _)
  exact ⟨T9, some (.int (Int32.ofNat len)), _, _, _, X9, by simp, rfl, rfl, (fun h => by cases h), ⟨rfl, B9, p9.from hh0, f9⟩, fun fs hl => c11.trans (X9.ireturnOut hexec hret rfl (Or.inl rfl) (hb hbytes d46) hl)⟩
end Cmp5
namespace Cmp3
def yN : MethodName := ⟨"java/lang/StringUTF16", "compress", "([CII)[B"⟩
abbrev yB : ByteArray := jdk_52_method_16_code
theorem d0 : decode yB 0 = .ok (.iload_n 2, 1) := by decide +kernel
theorem d1 : decode yB 1 = .ok (.newarray .byte, 2) := by decide +kernel
theorem d3 : decode yB 3 = .ok (.astore_n 3, 1) := by decide +kernel
theorem d4 : decode yB 4 = .ok (.aload_n 0, 1) := by decide +kernel
theorem d5 : decode yB 5 = .ok (.iload_n 1, 1) := by decide +kernel
theorem d6 : decode yB 6 = .ok (.aload_n 3, 1) := by decide +kernel
theorem d7 : decode yB 7 = .ok (.iconst 0, 1) := by decide +kernel
theorem d8 : decode yB 8 = .ok (.iload_n 2, 1) := by decide +kernel
theorem d9 : decode yB 9 = .ok (.invokestatic 115, 3) := by decide +kernel
theorem d12 : decode yB 12 = .ok (.istore 4, 2) := by decide +kernel
theorem d14 : decode yB 14 = .ok (.iload 4, 2) := by decide +kernel
theorem d16 : decode yB 16 = .ok (.iload_n 2, 1) := by decide +kernel
theorem d17 : decode yB 17 = .ok (.if_icmp (.eq) 40, 3) := by decide +kernel
theorem d57 : decode yB 57 = .ok (.aload_n 3, 1) := by decide +kernel
theorem d58 : decode yB 58 = .ok (.areturn, 1) := by decide +kernel
def site : List Cond := [.arrayClass .byte, Cmp5.tab] ++ staticW U16 115 Cmp5.yN
def tab : Cond := tabOf yN yB 6 (some (.array .byte)) site
def P (b : Addr) (A : Cell) (o len : Nat) (args : Array Value) (s : State) : Prop := args = #[.ref b, .int (Int32.ofNat o), .int (Int32.ofNat len)] ∧ Ch b A s ∧ o + len ≤ A.slots.size ∧ len ≤ 536870912 ∧ ∀ i, i < len → ¬ 255 < cv A (o + i)
def E (b : Addr) (A : Cell) (o len : Nat) (r : Option Value) (s u : State) : Prop := NewArr .byte "[B" len (fun j => .int (lo8 (cv A (o + j)))) r s u ∧ u.heap.size = s.heap.size + 1
/-- no char of the range above 255: a new byte[] of their low bytes -/
theorem law (l : Launch) (b : Addr) (A : Cell) (o len : Nat) : Law l yN 3 3 1 18 yB 6 (some (.array .byte)) site (P b A o len) (E b A o len) [] 1 len := by
  refine Law.of_walk (plainFor_of_name (by decide +kernel)) (by decide +kernel) (by decide +kernel) (by decide) (fun _ _ h => by rw [h.1]; rfl) (fun _ U U' hal hh h => ⟨h.1, h.2.1.mv hal hh, h.2.2⟩) (fun r U U' V V' h1 hal h2 h => ⟨NewArr.mv r U U' V V' h1 hal h2 h.1, by rw [h1, h2]; exact h.2⟩) ?_
  intro p e s m args below meth c s₁ X0 hexec hbytes hml hret hlk hnm hown hh0 W hP
  obtain ⟨rfl, hA, l1, l2, hp⟩ := hP
  have a31 := hA.1.2.2.2
  have c1 : Steps p.tables e below (s₁.setTop (entryFrame m #[.ref b, .int (Int32.ofNat o), .int (Int32.ofNat len)] 6)) (s₁.setTop (mkF m 0 #[.val (.ref b), .val (.int (Int32.ofNat o)), .val (.int (Int32.ofNat len)), .unset, .unset, .unset] [])) := entry rfl
  have c2 : Steps p.tables e below (s₁.setTop (entryFrame m #[.ref b, .int (Int32.ofNat o), .int (Int32.ofNat len)] 6)) (s₁.setTop (mkF m 1 #[.val (.ref b), .val (.int (Int32.ofNat o)), .val (.int (Int32.ofNat len)), .unset, .unset, .unset] [.int (Int32.ofNat len)])) := c1.trans (by
    refine XS.iloadN X0.here hexec rfl (hb hbytes d0) rfl ?_
    exact Steps.refl _)
  obtain ⟨T3, B3, X3, ba3, bs3, bv3, bh3, bf3, st3⟩ := X0.anew hexec (atype := .byte) (wk W (.arrayClass .byte)) rfl (by show len * 1 ≤ _; omega) (by omega) (g := (mkF m 1 #[.val (.ref b), .val (.int (Int32.ofNat o)), .val (.int (Int32.ofNat len)), .unset, .unset, .unset] [.int (Int32.ofNat len)])) rfl (hb hbytes d1) (rest := []) rfl (Nat.le_refl _) (by show 0 + len ≤ len; omega)
  rw [hh0] at ba3 st3
  have kp3 : XT.Kept s T3 := (XT.Kept.of_eq hh0).push bh3
  have hA3 := hA.keep X3.warmed.alike (kp3 _ _ hA.1.1)
  have hne : b ≠ s.heap.size := hA.1.ne
  have c4 : Steps p.tables e below (s₁.setTop (entryFrame m #[.ref b, .int (Int32.ofNat o), .int (Int32.ofNat len)] 6)) (T3.setTop (mkF m 3 #[.val (.ref b), .val (.int (Int32.ofNat o)), .val (.int (Int32.ofNat len)), .unset, .unset, .unset] [.ref s.heap.size])) := c2.trans (st3 _ (Steps.refl _))
  have c5 : Steps p.tables e below (s₁.setTop (entryFrame m #[.ref b, .int (Int32.ofNat o), .int (Int32.ofNat len)] 6)) (T3.setTop (mkF m 9 #[.val (.ref b), .val (.int (Int32.ofNat o)), .val (.int (Int32.ofNat len)), .val (.ref s.heap.size), .unset, .unset] [.int (Int32.ofNat len), .int 0, .ref s.heap.size, .int (Int32.ofNat o), .ref b])) := c4.trans (by
    refine XS.astoreN X3.here hexec rfl (hb hbytes d3) rfl rfl rfl ?_
    refine XS.aloadN X3.here hexec rfl (hb hbytes d4) rfl rfl ?_
    refine XS.iloadN X3.here hexec rfl (hb hbytes d5) rfl ?_
    refine XS.aloadN X3.here hexec rfl (hb hbytes d6) rfl rfl ?_
    refine iconstV X3.here hexec rfl 0 (hb hbytes d7) (by decide) ?_
    refine XS.iloadN X3.here hexec rfl (hb hbytes d8) rfl ?_
    exact Steps.refl _)
  obtain ⟨v6, T6, X6, E6, g6⟩ := X3.callS hexec (Cmp5.law l b A s.heap.size B3 o 0 len) hown (wks W (staticW U16 115 Cmp5.yN)) (wk W Cmp5.tab) (W := 0) (Nat.le_of_ble_eq_true rfl) (Nat.le_of_ble_eq_true rfl) (Nat.le_refl _) (by show 0 + len + 0 ≤ len; omega) (g := (mkF m 9 #[.val (.ref b), .val (.int (Int32.ofNat o)), .val (.int (Int32.ofNat len)), .val (.ref s.heap.size), .unset, .unset] [.int (Int32.ofNat len), .int (Int32.ofNat 0), .ref s.heap.size, .int (Int32.ofNat o), .ref b])) rfl (by rw [hml]; rfl) c5 (argsL := [.ref b, .int (Int32.ofNat o), .ref s.heap.size, .int (Int32.ofNat 0), .int (Int32.ofNat len)]) (rest := []) rfl rfl (by show 2 * 0 + 0 ≤ _; decide) (hb hbytes d9) (⟨rfl, hA3, ba3, hne, l1, by rw [bs3]; simp, hp⟩)
  obtain ⟨rfl, B6, p6, f6⟩ := E6
  have c7 : Steps p.tables e below (s₁.setTop (entryFrame m #[.ref b, .int (Int32.ofNat o), .int (Int32.ofNat len)] 6)) (T6.setTop (mkF m 12 #[.val (.ref b), .val (.int (Int32.ofNat o)), .val (.int (Int32.ofNat len)), .val (.ref s.heap.size), .unset, .unset] [.int (Int32.ofNat len)])) := g6
  have c8 : Steps p.tables e below (s₁.setTop (entryFrame m #[.ref b, .int (Int32.ofNat o), .int (Int32.ofNat len)] 6)) (T6.setTop (mkF m 58 #[.val (.ref b), .val (.int (Int32.ofNat o)), .val (.int (Int32.ofNat len)), .val (.ref s.heap.size), .val (.int (Int32.ofNat len)), .unset] [.ref s.heap.size])) := c7.trans (by
    refine XS.istore X6.here hexec rfl (hb hbytes d12) rfl rfl ?_
    refine XS.iload X6.here hexec rfl (hb hbytes d14) rfl ?_
    refine XS.iloadN X6.here hexec rfl (hb hbytes d16) rfl ?_
    refine XS.icmpYes X6.here hexec rfl (pc0 := 17) rfl (hb hbytes d17) rfl (ii_eq_t rfl) (by decide) rfl ?_
    refine XS.aloadN X6.here hexec rfl (hb hbytes d57) rfl rfl ?_
    exact Steps.refl _)
  have X8 := X6.wide (L' := []) (cells' := 1) (slots' := len) (fun x hx hlt => by
    simp only [List.nil_append, copyLocs, List.mem_map, List.mem_range] at hx
    obtain ⟨i, -, rfl⟩ := hx
    exact absurd hlt (Nat.lt_irrefl _)) (Nat.le_refl _) (by omega)
  exact ⟨T6, some (.ref s.heap.size), _, _, _, X8, rfl, rfl, rfl, (fun h => by cases h), ⟨⟨rfl, B6, ba3.like (X3.warmed.alike.symm.trans X6.warmed.alike) p6.1 f6.1 f6.2.1 f6.2.2.1, f6.2.1.trans bv3, by rw [X6.warmed.alike.findClass, f6.1]; exact bf3, by rw [f6.2.2.1, bs3]; simp, fun j hj => by rw [f6.2.2.2 j, if_pos (by omega)]; rfl, kp3.put p6 (Nat.le_refl _)⟩, by rw [p6.2.2, bh3, hh0]; simp⟩, fun fs hl => c8.trans (X8.areturnOut hexec rfl hret rfl (hb hbytes d58) hl)⟩
end Cmp3
namespace CodL
def yN : MethodName := ⟨"java/lang/StringUTF16", "coderFromArrayLen", "([BI)B"⟩
abbrev yB : ByteArray := jdk_52_method_15_code
theorem d0 : decode yB 0 = .ok (.iload_n 1, 1) := by decide +kernel
theorem d1 : decode yB 1 = .ok (.aload_n 0, 1) := by decide +kernel
theorem d2 : decode yB 2 = .ok (.arraylength, 1) := by decide +kernel
theorem d3 : decode yB 3 = .ok (.isub, 1) := by decide +kernel
theorem d4 : decode yB 4 = .ok (.bipush 31, 2) := by decide +kernel
theorem d6 : decode yB 6 = .ok (.iushr, 1) := by decide +kernel
theorem d7 : decode yB 7 = .ok (.i2b, 1) := by decide +kernel
theorem d8 : decode yB 8 = .ok (.ireturn, 1) := by decide +kernel
def site : List Cond := []
def tab : Cond := tabOf yN yB 2 (some .byte) site
def P (d : Addr) (B : Cell) (args : Array Value) (s : State) : Prop := args = #[.ref d, .int (Int32.ofNat B.slots.size)] ∧ Arr .byte d B s
def E (r : Option Value) (s u : State) : Prop := XT.PureE (some (.int 0)) r s u
/-- an array as long as the number of chars: LATIN1 -/
theorem law (l : Launch) (d : Addr) (B : Cell) : Law l yN 2 2 0 0 yB 2 (some .byte) site (P d B) E [] 0 0 := by
  refine Law.of_walk (plainFor_of_name (by decide +kernel)) (by decide +kernel) (by decide +kernel) (by decide) (fun _ _ h => by rw [h.1]; rfl) (fun _ U U' hal hh h => ⟨h.1, h.2.mv hal hh⟩) (fun r U U' V V' h1 hal h2 h => XT.PureE.mv r U U' V V' h1 hal h2 h) ?_
  intro p e s m args below meth c s₁ X0 hexec hbytes hml hret hlk hnm hown hh0 W hP
  obtain ⟨rfl, hB⟩ := hP
  have hB0 := hB.mv X0.warmed.alike hh0
  have c1 : Steps p.tables e below (s₁.setTop (entryFrame m #[.ref d, .int (Int32.ofNat B.slots.size)] 2)) (s₁.setTop (mkF m 0 #[.val (.ref d), .val (.int (Int32.ofNat B.slots.size))] [])) := entry rfl
  have c2 : Steps p.tables e below (s₁.setTop (entryFrame m #[.ref d, .int (Int32.ofNat B.slots.size)] 2)) (s₁.setTop (mkF m 2 #[.val (.ref d), .val (.int (Int32.ofNat B.slots.size))] [.ref d, .int (Int32.ofNat B.slots.size)])) := c1.trans (by
    refine XS.iloadN X0.here hexec rfl (hb hbytes d0) rfl ?_
    refine XS.aloadN X0.here hexec rfl (hb hbytes d1) rfl rfl ?_
    exact Steps.refl _)
  have c3 : Steps p.tables e below (s₁.setTop (entryFrame m #[.ref d, .int (Int32.ofNat B.slots.size)] 2)) (s₁.setTop (mkF m 8 #[.val (.ref d), .val (.int (Int32.ofNat B.slots.size))] [.int (lo8 (ushr (Int32.ofNat B.slots.size - Int32.ofNat B.slots.size) 31))])) := c2.trans (by
    refine X0.alen hexec hB0 rfl rfl (hb hbytes d2) ?_
    refine XS.isub X0.here hexec rfl (hb hbytes d3) rfl ?_
    refine bipushV X0.here hexec rfl 31 (hb hbytes d4) (by decide) ?_
    refine iushr X0.here hexec rfl (hb hbytes d6) rfl ?_
    refine i2b X0.here hexec rfl (hb hbytes d7) rfl ?_
    exact Steps.refl _)
  have e0 : lo8 (ushr (Int32.ofNat B.slots.size - Int32.ofNat B.slots.size) 31) = 0 := by rw [Int32.sub_self]; decide
  rw [e0] at c3
  exact ⟨s₁, some (.int 0), _, _, _, X0, rfl, rfl, rfl, (fun h => by cases h), ⟨rfl, hh0⟩, fun fs hl => c3.trans (X0.ireturnOut hexec hret rfl (Or.inr (Or.inr (Or.inl rfl))) (hb hbytes d8) hl)⟩
end CodL
/-- the String at a is Latin-1 over a new byte[] (the heap's one new cell): the low bytes of the len chars of A from o on; every cell but a is kept -/
def Got (a : Addr) (D : Cell) (fV fC : Field) (A : Cell) (o len : Nat) (r : Option Value) (s u : State) : Prop := r = none ∧ ∃ D' V : Cell, Blank "java/lang/String" a D' u ∧ Same D D' [fV.slot, fC.slot] ∧ D'.slots[fV.slot]? = some (.ref s.heap.size) ∧ D'.slots[fC.slot]? = some (.int 0) ∧ Arr .byte s.heap.size V u ∧ V.vm = .none ∧ u.vm.findClass "[B" = some V.cls ∧ V.slots.size = len ∧ (∀ j, j < len → V.slots[j]? = some (.int (lo8 (cv A (o + j))))) ∧ (∀ (y : Addr) (c : Cell), y ≠ a → s.heap[y]? = some c → u.heap[y]? = some c) ∧ u.heap.size = s.heap.size + 1
theorem Got.mv {a : Addr} {D A : Cell} {fV fC : Field} {o len : Nat} : ∀ r (U U' V V' : State), U'.heap = U.heap → V.vm.Alike V'.vm → V'.heap = V.heap → Got a D fV fC A o len r U V → Got a D fV fC A o len r U' V' :=
  fun r U U' V V' h1 hal h2 ⟨e0, D', X, a1, a2, a3, a4, a5, a6, a7, a8, a9, a10, a11⟩ => ⟨e0, D', X, a1.mv hal h2, a2, by rw [h1]; exact a3, a4, by rw [h1]; exact a5.mv hal h2, a6, by rw [hal.findClass]; exact a7, a8, a9, by rw [h1, h2]; exact a10, by rw [h1, h2]; exact a11⟩
namespace New4
def yN : MethodName := ⟨"java/lang/String", "<init>", "([CIILjava/lang/Void;)V"⟩
abbrev yB : ByteArray := jdk_42_method_149_code
theorem d0 : decode yB 0 = .ok (.aload_n 0, 1) := by decide +kernel
theorem d1 : decode yB 1 = .ok (.invokespecial 1, 3) := by decide +kernel
theorem d4 : decode yB 4 = .ok (.iload_n 3, 1) := by decide +kernel
theorem d5 : decode yB 5 = .ok (.ifCond (.ne) 22, 3) := by decide +kernel
theorem d27 : decode yB 27 = .ok (.getstatic 38, 3) := by decide +kernel
theorem d30 : decode yB 30 = .ok (.ifCond (.eq) 28, 3) := by decide +kernel
theorem d33 : decode yB 33 = .ok (.aload_n 1, 1) := by decide +kernel
theorem d34 : decode yB 34 = .ok (.iload_n 2, 1) := by decide +kernel
theorem d35 : decode yB 35 = .ok (.iload_n 3, 1) := by decide +kernel
theorem d36 : decode yB 36 = .ok (.invokestatic 177, 3) := by decide +kernel
theorem d39 : decode yB 39 = .ok (.astore 5, 2) := by decide +kernel
theorem d41 : decode yB 41 = .ok (.aload_n 0, 1) := by decide +kernel
theorem d42 : decode yB 42 = .ok (.aload 5, 2) := by decide +kernel
theorem d44 : decode yB 44 = .ok (.iload_n 3, 1) := by decide +kernel
theorem d45 : decode yB 45 = .ok (.invokestatic 47, 3) := by decide +kernel
theorem d48 : decode yB 48 = .ok (.putfield 15, 3) := by decide +kernel
theorem d51 : decode yB 51 = .ok (.aload_n 0, 1) := by decide +kernel
theorem d52 : decode yB 52 = .ok (.aload 5, 2) := by decide +kernel
theorem d54 : decode yB 54 = .ok (.putfield 9, 3) := by decide +kernel
theorem d57 : decode yB 57 = .ok (.return_, 1) := by decide +kernel
def site : List Cond := [.fieldLink "java/lang/String" 38 "java/lang/String" "COMPACT_STRINGS" "Z", Cmp3.tab, CodL.tab, .laysFinal "java/lang/String" "java/lang/String" "value" "[B", .fieldLink "java/lang/String" 9 "java/lang/String" "value" "[B", .laysFinal "java/lang/String" "java/lang/String" "coder" "B", .fieldLink "java/lang/String" 15 "java/lang/String" "coder" "B"] ++ objW "java/lang/String" 1 ++ staticW "java/lang/String" 177 Cmp3.yN ++ staticW "java/lang/String" 47 CodL.yN
def tab : Cond := tabOf yN yB 6 none site
def P (a : Addr) (D : Cell) (fV fC : Field) (b : Addr) (A : Cell) (z : Int32) (o len : Nat) (args : Array Value) (s : State) : Prop := args = #[.ref a, .ref b, .int (Int32.ofNat o), .int (Int32.ofNat len), .null] ∧ Blank "java/lang/String" a D s ∧ Found "java/lang/String" "value" "[B" fV s ∧ Found "java/lang/String" "coder" "B" fC s ∧ Ch b A s ∧ StaticIs s "java/lang/String" "COMPACT_STRINGS" "Z" (.int z) ∧ ¬ z = 0 ∧ 0 < len ∧ o + len ≤ A.slots.size ∧ len ≤ 536870912 ∧ ∀ i, i < len → ¬ 255 < cv A (o + i)
def E (a : Addr) (D : Cell) (fV fC : Field) (A : Cell) (o len : Nat) (r : Option Value) (s u : State) : Prop := Got a D fV fC A o len r s u
/-- len > 0, no char of the range above 255: a Latin-1 String of their low bytes -/
theorem law (l : Launch) (a : Addr) (D : Cell) (fV fC : Field) (b : Addr) (A : Cell) (z : Int32) (o len : Nat) : Law l yN 5 4 2 35 yB 6 none site (P a D fV fC b A z o len) (E a D fV fC A o len) [⟨a, fC.slot⟩, ⟨a, fV.slot⟩] 1 len := by
  refine Law.of_walk (plainFor_of_name (by decide +kernel)) (by decide +kernel) (by decide +kernel) (by decide) (fun _ _ h => by rw [h.1]; rfl) (fun _ U U' hal hh h => ⟨h.1, h.2.1.mv hal hh, h.2.2.1.al hal, h.2.2.2.1.al hal, h.2.2.2.2.1.mv hal hh, h.2.2.2.2.2.1.there hal hh, h.2.2.2.2.2.2⟩) (fun r U U' V V' h1 hal h2 h => Got.mv r U U' V V' h1 hal h2 h) ?_
  intro p e s m args below meth c s₁ X0 hexec hbytes hml hret hlk hnm hown hh0 W hP
  obtain ⟨rfl, hB, f1, f2, hA, s1, hz, l0, l1, l2, hp⟩ := hP
  have a31 := hA.1.2.2.2
  have c1 : Steps p.tables e below (s₁.setTop (entryFrame m #[.ref a, .ref b, .int (Int32.ofNat o), .int (Int32.ofNat len), .null] 6)) (s₁.setTop (mkF m 0 #[.val (.ref a), .val (.ref b), .val (.int (Int32.ofNat o)), .val (.int (Int32.ofNat len)), .val .null, .unset] [])) := entry rfl
  have c2 : Steps p.tables e below (s₁.setTop (entryFrame m #[.ref a, .ref b, .int (Int32.ofNat o), .int (Int32.ofNat len), .null] 6)) (s₁.setTop (mkF m 1 #[.val (.ref a), .val (.ref b), .val (.int (Int32.ofNat o)), .val (.int (Int32.ofNat len)), .val .null, .unset] [.ref a])) := c1.trans (by
    refine XS.aloadN X0.here hexec rfl (hb hbytes d0) rfl rfl ?_
    exact Steps.refl _)
  obtain ⟨T3, X3, q3, st3⟩ := X0.oinit hexec hown (wks W (objW "java/lang/String" 1)) (g := (mkF m 1 #[.val (.ref a), .val (.ref b), .val (.int (Int32.ofNat o)), .val (.int (Int32.ofNat len)), .val .null, .unset] [.ref a])) rfl (by rw [hml]; rfl) (rest := []) rfl (hb hbytes d1) (W := 0) (by show 2 * 0 + 0 ≤ _; decide) (Nat.le_of_ble_eq_true rfl) (Nat.le_of_ble_eq_true rfl)
  have hh3 := q3.trans hh0
  have c4 : Steps p.tables e below (s₁.setTop (entryFrame m #[.ref a, .ref b, .int (Int32.ofNat o), .int (Int32.ofNat len), .null] 6)) (T3.setTop (mkF m 27 #[.val (.ref a), .val (.ref b), .val (.int (Int32.ofNat o)), .val (.int (Int32.ofNat len)), .val .null, .unset] [])) := (c2.trans (st3 _ (Steps.refl _))).trans (by
    refine XS.iloadN X3.here hexec rfl (hb hbytes d4) rfl ?_
    refine XS.ifYes X3.here hexec rfl (pc0 := 5) rfl (hb hbytes d5) rfl (i0_ne_t (nz32 (by omega) l0)) (by decide) rfl ?_
    exact Steps.refl _)
  obtain ⟨T5, X5, q5, st5⟩ := X3.sget hexec hown (wk W (.fieldLink "java/lang/String" 38 "java/lang/String" "COMPACT_STRINGS" "Z")) s1 (fun _ _ h => by rw [hh3]; exact h) (g := (mkF m 27 #[.val (.ref a), .val (.ref b), .val (.int (Int32.ofNat o)), .val (.int (Int32.ofNat len)), .val .null, .unset] [])) rfl (hb hbytes d27)
  have hh5 := q5.trans hh3
  have c6 : Steps p.tables e below (s₁.setTop (entryFrame m #[.ref a, .ref b, .int (Int32.ofNat o), .int (Int32.ofNat len), .null] 6)) (T5.setTop (mkF m 30 #[.val (.ref a), .val (.ref b), .val (.int (Int32.ofNat o)), .val (.int (Int32.ofNat len)), .val .null, .unset] [.int z])) := c4.trans (st5 _ (Steps.refl _))
  have c7 : Steps p.tables e below (s₁.setTop (entryFrame m #[.ref a, .ref b, .int (Int32.ofNat o), .int (Int32.ofNat len), .null] 6)) (T5.setTop (mkF m 36 #[.val (.ref a), .val (.ref b), .val (.int (Int32.ofNat o)), .val (.int (Int32.ofNat len)), .val .null, .unset] [.int (Int32.ofNat len), .int (Int32.ofNat o), .ref b])) := c6.trans (by
    refine XS.ifNo X5.here hexec rfl (hb hbytes d30) rfl (i0_eq_f hz) ?_
    refine XS.aloadN X5.here hexec rfl (hb hbytes d33) rfl rfl ?_
    refine XS.iloadN X5.here hexec rfl (hb hbytes d34) rfl ?_
    refine XS.iloadN X5.here hexec rfl (hb hbytes d35) rfl ?_
    exact Steps.refl _)
  obtain ⟨v8, T8, X8, E8, g8⟩ := X5.callS hexec (Cmp3.law l b A o len) hown (wks W (staticW "java/lang/String" 177 Cmp3.yN)) (wk W Cmp3.tab) (W := 0) (Nat.le_of_ble_eq_true rfl) (Nat.le_of_ble_eq_true rfl) (Nat.le_refl _) (by show 0 + len ≤ len; omega) (g := (mkF m 36 #[.val (.ref a), .val (.ref b), .val (.int (Int32.ofNat o)), .val (.int (Int32.ofNat len)), .val .null, .unset] [.int (Int32.ofNat len), .int (Int32.ofNat o), .ref b])) rfl (by rw [hml]; rfl) c7 (argsL := [.ref b, .int (Int32.ofNat o), .int (Int32.ofNat len)]) (rest := []) rfl rfl (by show 2 * 0 + 0 ≤ _; decide) (hb hbytes d36) (⟨rfl, hA.mv X5.warmed.alike hh5, l1, l2, hp⟩)
  obtain ⟨e8, z8⟩ := E8
  obtain ⟨rfl, N, n1, n2, n3, n4, n5, n6⟩ := NewArr.mv _ T5 s _ _ hh5.symm (Vm.Alike.refl _) rfl e8
  rw [hh5] at z8
  have hB1 := hB.keep X8.warmed.alike (n6 _ _ hB.1)
  have hne : s.heap.size ≠ a := (Nat.ne_of_lt (Array.getElem?_eq_some_iff.mp hB.1).1).symm
  have c9 : Steps p.tables e below (s₁.setTop (entryFrame m #[.ref a, .ref b, .int (Int32.ofNat o), .int (Int32.ofNat len), .null] 6)) (T8.setTop (mkF m 39 #[.val (.ref a), .val (.ref b), .val (.int (Int32.ofNat o)), .val (.int (Int32.ofNat len)), .val .null, .unset] [.ref s.heap.size])) := g8
  have c10 : Steps p.tables e below (s₁.setTop (entryFrame m #[.ref a, .ref b, .int (Int32.ofNat o), .int (Int32.ofNat len), .null] 6)) (T8.setTop (mkF m 45 #[.val (.ref a), .val (.ref b), .val (.int (Int32.ofNat o)), .val (.int (Int32.ofNat len)), .val .null, .val (.ref s.heap.size)] [.int (Int32.ofNat N.slots.size), .ref s.heap.size, .ref a])) := by
    have hc : Steps p.tables e below (s₁.setTop (entryFrame m #[.ref a, .ref b, .int (Int32.ofNat o), .int (Int32.ofNat len), .null] 6)) (T8.setTop (mkF m 45 #[.val (.ref a), .val (.ref b), .val (.int (Int32.ofNat o)), .val (.int (Int32.ofNat len)), .val .null, .val (.ref s.heap.size)] [.int (Int32.ofNat len), .ref s.heap.size, .ref a])) := c9.trans (by
      refine XS.astore X8.here hexec rfl (hb hbytes d39) rfl rfl rfl ?_
      refine XS.aloadN X8.here hexec rfl (hb hbytes d41) rfl rfl ?_
      refine XS.aload X8.here hexec rfl (hb hbytes d42) rfl rfl ?_
      refine XS.iloadN X8.here hexec rfl (hb hbytes d44) rfl ?_
      exact Steps.refl _)
    rw [n4]; exact hc
  obtain ⟨v11, T11, X11, E11, g11⟩ := X8.callS hexec (CodL.law l s.heap.size N) hown (wks W (staticW "java/lang/String" 47 CodL.yN)) (wk W CodL.tab) (W := 1) (Nat.le_of_ble_eq_true rfl) (Nat.le_of_ble_eq_true rfl) (Nat.le_refl _) (by show 0 + len + 0 ≤ len; omega) (g := (mkF m 45 #[.val (.ref a), .val (.ref b), .val (.int (Int32.ofNat o)), .val (.int (Int32.ofNat len)), .val .null, .val (.ref s.heap.size)] [.int (Int32.ofNat N.slots.size), .ref s.heap.size, .ref a])) rfl (by rw [hml]; rfl) c10 (argsL := [.ref s.heap.size, .int (Int32.ofNat N.slots.size)]) (rest := [.ref a]) rfl rfl (by show 2 * 0 + (1 + 0) ≤ _; decide) (hb hbytes d45) (⟨rfl, n1⟩)
  obtain ⟨rfl, q11⟩ := E11
  have hB11 := hB1.mv (X8.warmed.alike.symm.trans X11.warmed.alike) q11
  have c12 : Steps p.tables e below (s₁.setTop (entryFrame m #[.ref a, .ref b, .int (Int32.ofNat o), .int (Int32.ofNat len), .null] 6)) (T11.setTop (mkF m 48 #[.val (.ref a), .val (.ref b), .val (.int (Int32.ofNat o)), .val (.int (Int32.ofNat len)), .val .null, .val (.ref s.heap.size)] [.int 0, .ref a])) := g11
  obtain ⟨T13, X13, p13, bl13, sl13, st13⟩ := X11.finit hexec hown (wk W (.fieldLink "java/lang/String" 15 "java/lang/String" "coder" "B")) (Or.inr ⟨_, (wk W (.laysFinal "java/lang/String" "java/lang/String" "coder" "B"))⟩) (Or.inl ⟨rfl, hnm⟩) f2 (Or.inl rfl) hB11 (t := .byte) (by decide +kernel) rfl (g := (mkF m 48 #[.val (.ref a), .val (.ref b), .val (.int (Int32.ofNat o)), .val (.int (Int32.ofNat len)), .val .null, .val (.ref s.heap.size)] [.int 0, .ref a])) rfl (rest := []) rfl (hb hbytes d48)
  have c14 : Steps p.tables e below (s₁.setTop (entryFrame m #[.ref a, .ref b, .int (Int32.ofNat o), .int (Int32.ofNat len), .null] 6)) (T13.setTop (mkF m 54 #[.val (.ref a), .val (.ref b), .val (.int (Int32.ofNat o)), .val (.int (Int32.ofNat len)), .val .null, .val (.ref s.heap.size)] [.ref s.heap.size, .ref a])) := (c12.trans (st13 _ (Steps.refl _))).trans (by
    refine XS.aloadN X13.here hexec rfl (hb hbytes d51) rfl rfl ?_
    refine XS.aload X13.here hexec rfl (hb hbytes d52) rfl rfl ?_
    exact Steps.refl _)
  obtain ⟨T15, X15, p15, bl15, sl15, st15⟩ := X13.finit hexec hown (wk W (.fieldLink "java/lang/String" 9 "java/lang/String" "value" "[B")) (Or.inr ⟨_, (wk W (.laysFinal "java/lang/String" "java/lang/String" "value" "[B"))⟩) (Or.inl ⟨rfl, hnm⟩) f1 (Or.inl rfl) bl13 (t := (.array .byte)) (by decide +kernel) rfl (g := (mkF m 54 #[.val (.ref a), .val (.ref b), .val (.int (Int32.ofNat o)), .val (.int (Int32.ofNat len)), .val .null, .val (.ref s.heap.size)] [.ref s.heap.size, .ref a])) rfl (rest := []) rfl (hb hbytes d54)
  have c16 : Steps p.tables e below (s₁.setTop (entryFrame m #[.ref a, .ref b, .int (Int32.ofNat o), .int (Int32.ofNat len), .null] 6)) (T15.setTop (mkF m 57 #[.val (.ref a), .val (.ref b), .val (.int (Int32.ofNat o)), .val (.int (Int32.ofNat len)), .val .null, .val (.ref s.heap.size)] [])) := c14.trans (st15 _ (Steps.refl _))
  have ap := apart (Or.inr ⟨_, (wk W (.laysFinal "java/lang/String" "java/lang/String" "value" "[B"))⟩) (Or.inr ⟨_, (wk W (.laysFinal "java/lang/String" "java/lang/String" "coder" "B"))⟩) f1 f2 (t₁ := .array .byte) (t₂ := .byte) (by decide +kernel) (by decide +kernel) (by decide)
  have al := X8.warmed.alike.symm.trans X15.warmed.alike
  have n7 : T11.heap[s.heap.size]? = some N := by rw [q11]; exact n1.1
  exact ⟨T15, none, _, _, _, X15, by simp, rfl, by omega, (fun _ => rfl), ⟨rfl, _, N, bl15, ((Same.refl D _).set _ (by simp)).set _ (by simp), sl15, (Cell.slots_setSlot_ne _ ap).trans sl13, n1.keep al (p15.other hne (p13.other hne n7)), n2, by rw [al.findClass]; exact n3, n4, n5, fun y c h1 h2 => p15.other h1 (p13.other h1 (by rw [q11]; exact n6 y c h2)), by rw [p15.2.2, p13.2.2, q11]; exact z8⟩, fun fs hl => c16.trans (X15.returnOut hexec hret (hb hbytes d57) hl)⟩
end New4
namespace New1
def yN : MethodName := ⟨"java/lang/String", "<init>", "([C)V"⟩
abbrev yB : ByteArray := jdk_42_method_3_code
theorem d0 : decode yB 0 = .ok (.aload_n 0, 1) := by decide +kernel
theorem d1 : decode yB 1 = .ok (.aload_n 1, 1) := by decide +kernel
theorem d2 : decode yB 2 = .ok (.iconst 0, 1) := by decide +kernel
theorem d3 : decode yB 3 = .ok (.aload_n 1, 1) := by decide +kernel
theorem d4 : decode yB 4 = .ok (.arraylength, 1) := by decide +kernel
theorem d5 : decode yB 5 = .ok (.aconst_null, 1) := by decide +kernel
theorem d6 : decode yB 6 = .ok (.invokespecial 27, 3) := by decide +kernel
theorem d9 : decode yB 9 = .ok (.return_, 1) := by decide +kernel
def site : List Cond := [New4.tab] ++ initW "java/lang/String" 27 New4.yN
def tab : Cond := tabOf yN yB 2 none site
def P (a : Addr) (D : Cell) (fV fC : Field) (b : Addr) (A : Cell) (z : Int32) (args : Array Value) (s : State) : Prop := args = #[.ref a, .ref b] ∧ Blank "java/lang/String" a D s ∧ Found "java/lang/String" "value" "[B" fV s ∧ Found "java/lang/String" "coder" "B" fC s ∧ Ch b A s ∧ StaticIs s "java/lang/String" "COMPACT_STRINGS" "Z" (.int z) ∧ ¬ z = 0 ∧ 0 < A.slots.size ∧ A.slots.size ≤ 536870912 ∧ ∀ i, i < A.slots.size → ¬ 255 < cv A i
def E (a : Addr) (D : Cell) (fV fC : Field) (A : Cell) (r : Option Value) (s u : State) : Prop := Got a D fV fC A 0 A.slots.size r s u
/-- new String(chars), not empty, no char above 255: a Latin-1 String of their low bytes -/
theorem law (l : Launch) (a : Addr) (D : Cell) (fV fC : Field) (b : Addr) (A : Cell) (z : Int32) : Law l yN 2 1 3 52 yB 2 none site (P a D fV fC b A z) (E a D fV fC A) [⟨a, fC.slot⟩, ⟨a, fV.slot⟩] 1 A.slots.size := by
  refine Law.of_walk (plainFor_of_name (by decide +kernel)) (by decide +kernel) (by decide +kernel) (by decide) (fun _ _ h => by rw [h.1]; rfl) (fun _ U U' hal hh h => ⟨h.1, h.2.1.mv hal hh, h.2.2.1.al hal, h.2.2.2.1.al hal, h.2.2.2.2.1.mv hal hh, h.2.2.2.2.2.1.there hal hh, h.2.2.2.2.2.2⟩) (fun r U U' V V' h1 hal h2 h => Got.mv r U U' V V' h1 hal h2 h) ?_
  intro p e s m args below meth c s₁ X0 hexec hbytes hml hret hlk hnm hown hh0 W hP
  obtain ⟨rfl, hB, f1, f2, hA, s1, hz, l0, l2, hp⟩ := hP
  have c1 : Steps p.tables e below (s₁.setTop (entryFrame m #[.ref a, .ref b] 2)) (s₁.setTop (mkF m 0 #[.val (.ref a), .val (.ref b)] [])) := entry rfl
  have c2 : Steps p.tables e below (s₁.setTop (entryFrame m #[.ref a, .ref b] 2)) (s₁.setTop (mkF m 6 #[.val (.ref a), .val (.ref b)] [.null, .int (Int32.ofNat A.slots.size), .int 0, .ref b, .ref a])) := c1.trans (by
    refine XS.aloadN X0.here hexec rfl (hb hbytes d0) rfl rfl ?_
    refine XS.aloadN X0.here hexec rfl (hb hbytes d1) rfl rfl ?_
    refine iconstV X0.here hexec rfl 0 (hb hbytes d2) (by decide) ?_
    refine XS.aloadN X0.here hexec rfl (hb hbytes d3) rfl rfl ?_
    refine X0.alen hexec (hA.1.mv X0.warmed.alike hh0) rfl rfl (hb hbytes d4) ?_
    refine XS.aconstNull X0.here hexec rfl (hb hbytes d5) ?_
    exact Steps.refl _)
  obtain ⟨v3, T3, X3, E3, g3⟩ := X0.callN hexec (New4.law l a D fV fC b A z 0 A.slots.size) rfl hown (wks W (initW "java/lang/String" 27 New4.yN)) (W New4.tab (by simp only [site, List.mem_cons, List.mem_append, true_or, or_true])) (W := 0) (Nat.le_of_ble_eq_true rfl) (Nat.le_of_ble_eq_true rfl) (Nat.le_refl _) (by show 0 + A.slots.size ≤ A.slots.size; omega) (g := (mkF m 6 #[.val (.ref a), .val (.ref b)] [.null, .int (Int32.ofNat A.slots.size), .int (Int32.ofNat 0), .ref b, .ref a])) rfl (by rw [hml]; rfl) c2 (argsL := [.ref b, .int (Int32.ofNat 0), .int (Int32.ofNat A.slots.size), .null]) (rest := []) rfl rfl (by show 2 * 0 + 0 ≤ _; decide) (hb hbytes d6) (⟨rfl, hB.mv X0.warmed.alike hh0, f1.al X0.warmed.alike, f2.al X0.warmed.alike, hA.mv X0.warmed.alike hh0, s1.there X0.warmed.alike hh0, hz, l0, by omega, l2, fun i hi => by rw [Nat.zero_add]; exact hp i hi⟩)
  have e0 := Got.mv _ s₁ s _ _ hh0.symm (Vm.Alike.refl _) rfl E3
  obtain rfl := e0.1
  have c4 : Steps p.tables e below (s₁.setTop (entryFrame m #[.ref a, .ref b] 2)) (T3.setTop (mkF m 9 #[.val (.ref a), .val (.ref b)] [])) := g3
  exact ⟨T3, none, _, _, _, X3, by simp, rfl, by omega, (fun _ => rfl), e0, fun fs hl => c4.trans (X3.returnOut hexec hret (hb hbytes d9) hl)⟩
theorem pays {l : Launch} {R : Room} {p : Program} {e : Env} {below : List Frame} {s : State} {sargs : Array Value} {len W : Nat} (a : Addr) (D : Cell) (fV fC : Field) (b : Addr) (A : Cell) (z : Int32) (htab : tab.before sargs s = true) (hfr : 4 ≤ R.frames) (hlo : W + 65 ≤ R.locals) :
    Back l R p e below s sargs yN len W (fun A₁ a₁ => A₁.cells + 1 ≤ R.cells ∧ A₁.slots + A.slots.size ≤ R.slots ∧ P a D fV fC b A z a₁ A₁.U) (fun A₁ _ v₁ B₁ => E a D fV fC A v₁ A₁.U B₁.U ∧ B₁.locs = A₁.locs ++ [⟨a, fC.slot⟩, ⟨a, fV.slot⟩] ∧ B₁.cells = A₁.cells + 1 ∧ B₁.slots = A₁.slots + A.slots.size) :=
  (law l a D fV fC b A z).pays htab hfr (by omega)
end New1
/-- the byte, read back as charAt reads it, is the char -/
theorem lo8_mask {x : Int32} (h0 : ¬ x < 0) (h1 : ¬ 255 < x) : lo8 x &&& 255 = x := by
  have t : ∀ k : Fin 256, lo8 (Int32.ofNat k.val) &&& 255 = Int32.ofNat k.val := by decide +kernel
  rw [Int32.lt_iff_toInt_lt] at h0 h1
  have e0 : (0 : Int32).toInt = 0 := rfl
  have e1 : (255 : Int32).toInt = 255 := rfl
  obtain ⟨k, hk⟩ : ∃ k : Nat, x.toInt = k := ⟨x.toInt.toNat, by omega⟩
  have hx : x = Int32.ofNat k := Int32.toInt_inj.mp (by rw [hk, Int32.toInt_ofNat_small (by omega)])
  rw [hx]
  exact t ⟨k, by omega⟩
end StrChars
namespace StrChars.Road
open Jvm Sem ClassFile Op Lib Jvm.Stand Jvm.Free Jvm.Free.XT
open Jvm.Lib.Cold (StaticIs)
abbrev ST : String := "java/lang/String"
/-- every table word that New1's law asks, flat -/
abbrev words : List Jvm.Cond := [.code New1.yN New1.yB 2 none, .initialized ST, .methodLink ST 27 New4.yN, .instanceMethod New4.yN,
  .code New4.yN New4.yB 6 none, .fieldLink ST 38 ST "COMPACT_STRINGS" "Z", .laysFinal ST ST "value" "[B", .fieldLink ST 9 ST "value" "[B", .laysFinal ST ST "coder" "B", .fieldLink ST 15 ST "coder" "B",
  .methodLink ST 1 Lib.objectInit, .instanceMethod Lib.objectInit, .code Lib.objectInit ⟨#[0xb1]⟩ 1 none, .methodLink ST 177 Cmp3.yN, .static Cmp3.yN, .methodLink ST 47 CodL.yN, .static CodL.yN,
  .code Cmp3.yN Cmp3.yB 6 (some (.array .byte)), .initialized U16, .arrayClass .byte, .methodLink U16 115 Cmp5.yN, .static Cmp5.yN, .code Cmp5.yN Cmp5.yB 7 (some .int), .code CodL.yN CodL.yB 2 (some .byte)]
theorem tab_of {a : Array Value} {s : State} (h : ∀ w ∈ words, w.before a s = true) : New1.tab.before a s = true := by
  have h5 : Cmp5.tab.before a s = true := unparts (wk h (.code Cmp5.yN Cmp5.yB 7 (some .int))) (wks h (.initialized Cmp5.yN.cls :: Cmp5.site))
  have hc : CodL.tab.before a s = true := unparts (wk h (.code CodL.yN CodL.yB 2 (some .byte))) (wks h (.initialized CodL.yN.cls :: CodL.site))
  have q5 : ∀ w ∈ Cmp5.tab :: words, w.before a s = true := fun w hw => (List.mem_cons.mp hw).elim (fun e => e ▸ h5) (h w)
  have h3 : Cmp3.tab.before a s = true := unparts (wk q5 (.code Cmp3.yN Cmp3.yB 6 (some (.array .byte)))) (wks q5 (.initialized Cmp3.yN.cls :: Cmp3.site))
  have q3 : ∀ w ∈ Cmp3.tab :: CodL.tab :: words, w.before a s = true := fun w hw => (List.mem_cons.mp hw).elim (fun e => e ▸ h3) fun hw => (List.mem_cons.mp hw).elim (fun e => e ▸ hc) (h w)
  have h4 : New4.tab.before a s = true := unparts (wk q3 (.code New4.yN New4.yB 6 none)) (wks q3 (.initialized New4.yN.cls :: New4.site))
  have q4 : ∀ w ∈ New4.tab :: words, w.before a s = true := fun w hw => (List.mem_cons.mp hw).elim (fun e => e ▸ h4) (h w)
  exact unparts (wk q4 (.code New1.yN New1.yB 2 none)) (wks q4 (.initialized New1.yN.cls :: New1.site))
/-- the words ride from the start Z to the walk's own state -/
theorem moved {Z s : State} {a0 args : Array Value} (hZ : Z.Warmed39 s.vm) (hw : ∀ d ∈ words, d.before a0 Z = true) : ∀ d ∈ words, d.before args s = true := fun d hd => by
  have q := hw d hd
  have t : ∀ d ∈ words, d = .arrayClass .byte ∨ (d.onTables && d.keepsFace) = true := by decide +kernel
  rcases t d hd with rfl | t
  · exact RoadKit.mvA hZ q
  · exact RoadKit.mv hZ q t
/-- WHAT COMES BACK, over the tables of the start Z: h the heap at the call, h' behind it -/
def Q (Z : State) (x : Addr) (A : Cell) (h : Heap) (v : Option Value) (h' : Heap) (L : List Loc) : Prop := v = none ∧ (∀ y ∈ L, y.base = x) ∧ RoadKit.Keep h h' [x] ∧ h'.size = h.size + 1 ∧ RoadKit.Exa Z h' x ST ∧ RoadKit.Fld Z h' x ST "value" "[B" (.ref h.size) ∧ RoadKit.Fld Z h' x ST "coder" "B" (.int 0) ∧
  (∃ V : Cell, RoadKit.Arr Z h' h.size V .byte ∧ V.vm = .none ∧ Z.vm.findClass "[B" = some V.cls ∧ V.slots.size = A.slots.size ∧ ∀ j, j < A.slots.size → V.slots[j]? = some (.int (lo8 (cv A j)))) ∧
  ∀ (O n d : String) (w : Value), RoadKit.Fld Z h x O n d w → RoadKit.slotOf Z O n d ≠ RoadKit.slotOf Z ST "value" "[B" → RoadKit.slotOf Z O n d ≠ RoadKit.slotOf Z ST "coder" "B" → RoadKit.Fld Z h' x O n d w
/-- **new String(chars) AT A CALL, IN THE ROAD'S FORM**: for specialBack behind newO: x the fresh String, b the char[] with the cell A -/
theorem back {p : Program} {l : Launch} {e : Env} {R : Room} {s : State} {args : Array Value} {below : List Frame} {len W : Nat} {Z : State} {a0 : Array Value} {h : Heap} (hZ : Z.Warmed39 s.vm) (hw : ∀ d ∈ words, d.before a0 Z = true) {kI : Nat} (wi : (Jvm.Cond.instantiable ST kI).before a0 Z = true)
    {x b : Addr} {A : Cell} {z : Int32} {v0 c0 : Value} (E : RoadKit.Exa Z h x ST) (V : RoadKit.Fld Z h x ST "value" "[B" v0) (C : RoadKit.Fld Z h x ST "coder" "B" c0) (K : RoadKit.Arr Z h b A .char) (hty : Typed .char A) (S : RoadKit.Sta Z h ST "COMPACT_STRINGS" "Z" (.int z)) (hz : ¬ z = 0)
    (l0 : 0 < A.slots.size) (l2 : A.slots.size ≤ 536870912) (hp : ∀ i, i < A.slots.size → ¬ 255 < cv A i) (hfr : 4 ≤ R.frames) (hlo : W + 65 ≤ R.locals) :
    Back l R p e below s args New1.yN len W (fun P a => a = #[.ref x, .ref b] ∧ P.U.heap = h ∧ P.cells + 1 ≤ R.cells ∧ P.slots + A.slots.size ≤ R.slots)
      (fun P _ v B => ∃ L, Q Z x A h v B.U.heap L ∧ B.locs = P.locs ++ L ∧ B.cells = P.cells + 1 ∧ B.slots = P.slots + A.slots.size) := by
  intro m meth c P g ig mk a X hg hsize hdg hW hn hp'
  obtain ⟨rfl, rfl, r1, r2⟩ := hp'
  have al : Z.vm.Alike P.U.vm := hZ.alike.trans X.warmed.alike
  obtain ⟨D, cfV, kV, iV, fV, hD, gV, stV, knV, obV, asV, slV⟩ := id V
  obtain ⟨D', cfC, kC, iC, fC, hD', gC, stC, -, -, asC, slC⟩ := id C
  cases hD.symm.trans hD'
  obtain ⟨D2, kD, e1, e2, e3, e4, e5⟩ := id E
  cases hD.symm.trans e1
  obtain ⟨c2, k2, i1, i2, i3, -⟩ := Cond.instantiable_spec wi
  cases e2.symm.trans i1
  cases e3.symm.trans i2
  obtain ⟨kU, u1, u2⟩ := al.2.2 _ _ e3
  have hB : Blank ST x D P.U := ⟨hD, ⟨knV, fun q hq => by rw [hq] at obV; cases obV⟩, by rw [al.findClass]; exact e2, kU, u1, by rw [u2]; exact i3, by rw [u2]; exact e5 i3⟩
  have F1 : Found ST "value" "[B" fV P.U := ⟨SBG.found_only al ⟨cfV, kV, iV, gV⟩, stV⟩
  have F2 : Found ST "coder" "B" fC P.U := ⟨SBG.found_only al ⟨cfC, kC, iC, gC⟩, stC⟩
  have hA : Ch b A P.U := ⟨⟨K.1, State.isArrayOf_alike al K.2.1, K.2.2, by omega⟩, hty⟩
  have hS : StaticIs P.U ST "COMPACT_STRINGS" "Z" (.int z) := by
    obtain ⟨cfS, iS, kS, fS, st, cS, t1, t2, t3, t4, t5, t6, t7⟩ := S
    exact StaticIs.there (s := { Z with heap := P.U.heap }) ⟨cfS, iS, kS, fS, st, cS, t1, t2, t3, t4, t5, (fun q => by rw [q] at t6; cases t6), t7⟩ al rfl
  obtain ⟨v, B, X', ⟨⟨hv, E', V', q1, q2, q3, q4, q5, q6, q7, q8, q9, q10, q11⟩, hl, hc, hs⟩, st⟩ := New1.pays x D fV fC b A z (tab_of (moved hZ hw)) hfr hlo m meth c P g ig mk _ X hg hsize hdg hW hn ⟨r1, r2, rfl, hB, F1, F2, hA, hS, hz, l0, l2, hp⟩
  have al' : Z.vm.Alike B.U.vm := hZ.alike.trans X'.warmed.alike
  have hsz : E'.slots.size = D.slots.size := by
    obtain ⟨-, -, -, kB, w1, w2, w3⟩ := q1
    obtain ⟨kB', y1, y2⟩ := al'.2.2 _ _ e3
    rw [q2.2.1] at w1
    cases w1.symm.trans y1
    rw [w3, e5 i3, y2]
  refine ⟨v, B, X', ⟨_, ⟨hv, ?_, ⟨by omega, fun y cy hy hn' => q10 y cy (by simpa using hn') hy, fun y cy hy => ?_⟩, q11, ⟨E', _, q1.1, by rw [q2.2.1]; exact e2, by rw [q2.2.1]; exact e3, by rw [q2.1]; exact obV, fun _ => by rw [hsz]; exact e5 i3⟩,
    ⟨E', cfV, kV, iV, fV, q1.1, gV, stV, by rw [q2.1]; exact knV, by rw [q2.1]; exact obV, by rw [q2.2.1]; exact asV, q3⟩, ⟨E', cfC, kC, iC, fC, q1.1, gC, stC, by rw [q2.1]; exact knV, by rw [q2.1]; exact obV, by rw [q2.2.1]; exact asC, q4⟩,
    ⟨V', ⟨q5.1, State.isArrayOf_alike al'.symm q5.2.1, q5.2.2.1⟩, q6, by rw [← al'.findClass]; exact q7, q8, fun j hj => by have := q9 j hj; rwa [Nat.zero_add] at this⟩, fun O n d w F n1 n2 => ?_⟩, hl, hc, hs⟩, st⟩
  · intro y hy
    simp only [List.mem_cons, List.not_mem_nil, or_false] at hy
    rcases hy with rfl | rfl <;> rfl
  · by_cases q : y = x
    · subst q
      cases hD.symm.trans hy
      exact ⟨E', q1.1, q2.2.1, q2.1, hsz⟩
    · exact ⟨cy, q10 y cy q hy, rfl, rfl, rfl⟩
  · obtain ⟨D3, cf, k, i, f, g1, g2, g3, g4, g5, g6, g7⟩ := F
    cases hD.symm.trans g1
    simp only [RoadKit.slotOf, g2, gV, gC, Option.map_some, Option.getD_some] at n1 n2
    exact ⟨E', cf, k, i, f, q1.1, g2, g3, by rw [q2.1]; exact g4, by rw [q2.1]; exact g5, by rw [q2.2.1]; exact g6, by rw [q2.2.2 f.slot (by simp [n1, n2])]; exact g7⟩
end StrChars.Road
namespace StrChars.Road
open Jvm Sem ClassFile Op Lib Jvm.Stand Jvm.Free Jvm.Free.XT
/-- WHAT COMES BACK, the byte[] as a list of values -/
def QA (Z : State) (x : Addr) (zn : Int32) (cs : List Int32) (h : Heap) (v : Option Value) (h' : Heap) (L : List Loc) : Prop := v = none ∧ (∀ y ∈ L, y.base = x) ∧ RoadKit.Keep h h' [x] ∧ h'.size = h.size + 1 ∧ RoadKit.Exa Z h' x ST ∧ RoadKit.Fld Z h' x ST "value" "[B" (.ref h.size) ∧ RoadKit.Fld Z h' x ST "coder" "B" (.int 0) ∧
  (∃ kb, Z.vm.findClass "[B" = some kb ∧ RoadKit.Arv Z h' h.size kb .byte zn (cs.map fun c => .int (lo8 c)) (.int 0)) ∧
  ∀ (O n d : String) (w : Value), RoadKit.Fld Z h x O n d w → RoadKit.slotOf Z O n d ≠ RoadKit.slotOf Z ST "value" "[B" → RoadKit.slotOf Z O n d ≠ RoadKit.slotOf Z ST "coder" "B" → RoadKit.Fld Z h' x O n d w
/-- **new String(chars) AT A CALL, THE ARRAYS AS LISTS**: the char[] at b holds cs, not empty, no char above 255 -/
theorem backArv {p : Program} {l : Launch} {e : Env} {R : Room} {s : State} {args : Array Value} {below : List Frame} {len W : Nat} {Z : State} {a0 : Array Value} {h : Heap} (hZ : Z.Warmed39 s.vm) (hw : ∀ d ∈ words, d.before a0 Z = true) {kI : Nat} (wi : (Jvm.Cond.instantiable ST kI).before a0 Z = true)
    {x b : Addr} {k : ClassId} {zn z : Int32} {cs : List Int32} {dv v0 c0 : Value} (E : RoadKit.Exa Z h x ST) (V : RoadKit.Fld Z h x ST "value" "[B" v0) (C : RoadKit.Fld Z h x ST "coder" "B" c0) (K : RoadKit.Arv Z h b k .char zn (cs.map Value.int) dv) (S : RoadKit.Sta Z h ST "COMPACT_STRINGS" "Z" (.int z)) (hz : ¬ z = 0)
    (hlen : zn.toNatClampNeg = cs.length) (h0 : 0 < cs.length) (hbig : cs.length ≤ 536870912) (hall : ∀ c ∈ cs, ¬ 255 < c) (hfr : 4 ≤ R.frames) (hlo : W + 65 ≤ R.locals) :
    Back l R p e below s args New1.yN len W (fun P a => a = #[.ref x, .ref b] ∧ P.U.heap = h ∧ P.cells + 1 ≤ R.cells ∧ P.slots + cs.length ≤ R.slots)
      (fun P _ v B => ∃ L, QA Z x zn cs h v B.U.heap L ∧ B.locs = P.locs ++ L ∧ B.cells = P.cells + 1 ∧ B.slots = P.slots + cs.length) := by
  obtain ⟨A, K1, K2, K3, K4, K5, K6⟩ := K
  have e : A.slots.size = cs.length := K3.trans hlen
  have hat : ∀ (i : Nat) (hi : i < cs.length), A.slots[i]? = some (.int cs[i]) := fun i hi => by rw [K5 i (by omega)]; simp [List.getD_eq_getElem?_getD, hi]
  have hcv : ∀ (i : Nat) (hi : i < cs.length), cv A i = cs[i] := fun i hi => by unfold cv; rw [hat i hi]
  have hty : Typed .char A := fun i v hv => by
    have hi : i < A.slots.size := (Array.getElem?_eq_some_iff.mp hv).1
    have q := K5 i hi
    rw [hv] at q
    rw [Option.some.inj q]
    exact K6 i hi
  refine Back.mono (back hZ hw wi E V C K1 hty S hz (by omega) (by omega) (fun i hi => by rw [hcv i (by omega)]; exact hall _ (List.getElem_mem _)) hfr hlo) (fun P a hp => ⟨hp.1, hp.2.1, hp.2.2.1, by rw [e]; exact hp.2.2.2⟩) (fun P a v B hp hq => ?_)
  obtain ⟨L, ⟨q1, q2, q3, q4, q5, q6, q7, ⟨V', v1, v2, v3, v4, v5⟩, q9⟩, hl, hc, hs⟩ := hq
  refine ⟨L, ⟨q1, q2, q3, q4, q5, q6, q7, ⟨V'.cls, v3, V', v1, rfl, by rw [v4, e, hlen], K4, fun i hi => ?_, fun i hi => ?_⟩, q9⟩, hl, hc, by rw [hs, e]⟩
  · have hi' : i < cs.length := by omega
    rw [v5 i (by omega), hcv i hi']; simp [List.getD_eq_getElem?_getD, hi']
  · have hi' : i < cs.length := by omega
    simp only [List.getD_eq_getElem?_getD, List.getElem?_map, List.getElem?_eq_getElem hi', Option.map_some, Option.getD_some]
    exact fits_lo8 _
end StrChars.Road
namespace StrChars.Road
open Jvm Sem ClassFile Op Lib Jvm.Stand Jvm.Free Jvm.Free.XT
/-- WHAT COMES BACK, in the writer's own shape -/
def QV (Z : State) (x : Addr) (N : Int32) (bs : List Int32) (h : Heap) (n0 : Nat) (v : Option Value) (h' : Heap) (L : List Loc) : Prop := v = none ∧ RoadKit.Fr n0 L ∧ RoadKit.Keep h h' [x] ∧ RoadKit.Exa Z h' x ST ∧ RoadKit.Fld Z h' x ST "coder" "B" (.int 0) ∧
  ∃ (t : Addr) (kb : ClassId), n0 ≤ t ∧ h.size ≤ t ∧ ¬ t = x ∧ RoadKit.Fld Z h' x ST "value" "[B" (.ref t) ∧ RoadKit.Arv Z h' t kb .byte N (bs.map Value.int) (.int 0)
/-- **new String(chars) AT A CALL, FOR THE WRITER**: a char[] of n known ints, each 0 to 255 -/
theorem backV {p : Program} {l : Launch} {e : Env} {R : Room} {s : State} {args : Array Value} {below : List Frame} {len W : Nat} {Z : State} {a0 : Array Value} {h : Heap} (hZ : Z.Warmed39 s.vm) (hw : ∀ d ∈ words, d.before a0 Z = true) {kI : Nat} (wi : (Jvm.Cond.instantiable ST kI).before a0 Z = true)
    {x b : Addr} {kC : ClassId} {cs bs : List Int32} {d v0 c0 : Value} {z N : Int32} {n n0 : Nat} (hx0 : n0 ≤ x) (hh0 : n0 ≤ h.size) (E : RoadKit.Exa Z h x ST) (V : RoadKit.Fld Z h x ST "value" "[B" v0) (C : RoadKit.Fld Z h x ST "coder" "B" c0) (K : RoadKit.Arv Z h b kC .char N (cs.map Value.int) d) (S : RoadKit.Sta Z h ST "COMPACT_STRINGS" "Z" (.int z)) (hz : ¬ z = 0)
    (hn : cs.length = n) (hN : N = Int32.ofNat n) (l0 : 0 < n) (l2 : n ≤ 4000) (hp : ∀ c ∈ cs, ¬ c < 0 ∧ ¬ (255 : Int32) < c) (hb : bs = cs.map (fun c => c.toInt8.toInt32)) (hfr : 4 ≤ R.frames) (hlo : W + 65 ≤ R.locals) :
    Back l R p e below s args (⟨"java/lang/String", "<init>", "([C)V"⟩ : MethodName) len W (fun P a => a = #[.ref x, .ref b] ∧ P.U.heap = h ∧ P.cells + 1 ≤ R.cells ∧ P.slots + n ≤ R.slots)
      (fun P _ v B => ∃ L, QV Z x N bs h n0 v B.U.heap L ∧ B.locs = P.locs ++ L ∧ B.cells = P.cells + 1 ∧ B.slots = P.slots + n) := by
  subst hn hN hb
  refine Back.mono (backArv hZ hw wi E V C K S hz (n32 (by omega)) l0 (by omega) (fun c hc => (hp c hc).2) hfr hlo) (fun P a hp => hp) (fun P a v B hp hq => ?_)
  obtain ⟨L, ⟨q1, q2, q3, q4, q5, q6, q7, ⟨kb, v1, v2⟩, q9⟩, hl, hc, hs⟩ := hq
  exact ⟨L, ⟨q1, fun y hy => by rw [q2 y hy]; exact hx0, q3, q5, q7, h.size, kb, hh0, Nat.le_refl _, Nat.ne_of_gt E.lt, q6, by rw [List.map_map]; exact v2⟩, hl, hc, hs⟩
end StrChars.Road
namespace StrChars
open Jvm Sem ClassFile Op Lib Jvm.Stand Jvm.Free.XT Jvm.Free.ALB Jvm.Free.JM Jvm.Free
open Jvm.Lib.Cold (StaticIs)
def hi8 (x : Int32) : Int32 := lo8 (x >>> ((8 : Int32) &&& 31))
/-- what StringUTF16.getChar makes of two bytes -/
def pairCh (u v : Int32) : Int32 := (((u &&& 255) <<< ((0 : Int32) &&& 31)) ||| ((v &&& 255) <<< ((8 : Int32) &&& 31))).toUInt32.toUInt16.toUInt32.toInt32
theorem lo8_and (x : Int32) : (lo8 x &&& 255).toBitVec.toNat = x.toBitVec.toNat % 256 := by
  have h : (lo8 x).toBitVec = (x.toBitVec.signExtend 8).signExtend 32 := by rw [lo8, Int8.toBitVec_toInt32, Int32.toBitVec_toInt8]
  rw [Int32.toBitVec_and, BitVec.toNat_and, h]
  have e : ((x.toBitVec.signExtend 8).signExtend 32).toNat % 256 = x.toBitVec.toNat % 256 := by
    rw [BitVec.toNat_signExtend]
    have hlt := x.toBitVec.isLt
    simp only [BitVec.toNat_setWidth, BitVec.toNat_signExtend]
    split <;> split <;> omega
  rw [← e]
  exact Nat.and_two_pow_sub_one_eq_mod _ 8
theorem pair_says {c : Int32} (h0 : ¬ c < 0) (h1 : ¬ 65535 < c) : pairCh (lo8 c) (hi8 c) = c := by
  rw [Int32.lt_iff_toInt_lt] at h0 h1
  have e0 : (0 : Int32).toInt = 0 := rfl
  have e1 : (65535 : Int32).toInt = 65535 := rfl
  have hc : c.toInt = c.toBitVec.toNat := by
    have := c.toBitVec.isLt
    have e : c.toInt = c.toBitVec.toInt := rfl
    rw [e] at h0 h1
    rw [e]
    rw [BitVec.toInt_eq_toNat_cond] at h0 h1 ⊢
    split at h0 <;> split <;> omega
  have hn : c.toBitVec.toNat < 65536 := by omega
  have a1 := lo8_and c
  have a2 : (hi8 c &&& 255).toBitVec.toNat = c.toBitVec.toNat / 256 := by
    rw [hi8, lo8_and]
    have e : ((8 : Int32) &&& 31) = 8 := by decide
    rw [e, Int32.toBitVec_shiftRight]
    have e2 : ((8 : Int32).toBitVec.smod 32) = 8#32 := by decide
    rw [e2, BitVec.sshiftRight_eq', BitVec.toNat_sshiftRight_of_msb_false (by rw [BitVec.msb_eq_false_iff_two_mul_lt]; omega)]
    show c.toBitVec.toNat >>> 8 % 256 = _
    rw [Nat.shiftRight_eq_div_pow]
    omega
  unfold pairCh
  apply Int32.toBitVec_inj.mp
  apply BitVec.eq_of_toNat_eq
  have f0 : ((0 : Int32) &&& 31) = 0 := by decide
  have f8 : ((8 : Int32) &&& 31) = 8 := by decide
  rw [f0, f8]
  have g : (((lo8 c &&& 255) <<< (0 : Int32)) ||| ((hi8 c &&& 255) <<< (8 : Int32))).toBitVec.toNat = c.toBitVec.toNat := by
    rw [Int32.toBitVec_or, Int32.toBitVec_shiftLeft, Int32.toBitVec_shiftLeft]
    have s0 : ((0 : Int32).toBitVec.smod 32) = 0#32 := by decide
    have s8 : ((8 : Int32).toBitVec.smod 32) = 8#32 := by decide
    rw [s0, s8, BitVec.toNat_or]
    simp only [BitVec.shiftLeft_eq', BitVec.toNat_shiftLeft, a1, a2]
    show (c.toBitVec.toNat % 256) <<< 0 % 2 ^ 32 ||| (c.toBitVec.toNat / 256) <<< 8 % 2 ^ 32 = _
    rw [Nat.shiftLeft_zero, Nat.mod_eq_of_lt (show c.toBitVec.toNat % 256 < 2 ^ 32 by omega), Nat.mod_eq_of_lt (show (c.toBitVec.toNat / 256) <<< 8 < 2 ^ 32 by rw [Nat.shiftLeft_eq]; omega), Nat.or_comm, ← Nat.shiftLeft_add_eq_or_of_lt (by omega), Nat.shiftLeft_eq]
    omega
  show BitVec.toNat (((((lo8 c &&& 255) <<< (0 : Int32)) ||| ((hi8 c &&& 255) <<< (8 : Int32))).toBitVec.setWidth 16).setWidth 32) = _
  rw [BitVec.toNat_setWidth, BitVec.toNat_setWidth, g]
  omega
end StrChars
namespace StrChars
open Jvm Sem ClassFile Op Lib Jvm.Stand Jvm.Free.XT Jvm.Free.ALB Jvm.Free.JM Jvm.Free
open Jvm.Lib.Cold (StaticIs)
/-- the array's cell V codes the n chars f 0 .. f (n - 1) by the coder cd, as the JDK does: coder 1 just where some char is above 255 -/
def Cod (cd : Int32) (n : Nat) (f : Nat → Int32) (V : Cell) : Prop := (cd = 0 ∧ V.slots.size = n ∧ ∀ j, j < n → V.slots[j]? = some (.int (lo8 (f j))) ∧ ¬ 255 < f j) ∨ (cd = 1 ∧ V.slots.size = 2 * n ∧ (∀ j, j < n → V.slots[2 * j]? = some (.int (lo8 (f j))) ∧ V.slots[2 * j + 1]? = some (.int (hi8 (f j)))) ∧ ∃ j, j < n ∧ 255 < f j)
/-- **x is a String of the n chars f 0 .. f (n - 1)**, Latin-1 or UTF-16; its array at t has the cell V -/
def Txt (x t : Addr) (V : Cell) (cd : Int32) (n : Nat) (f : Nat → Int32) (U : State) : Prop := Exact "java/lang/String" x U ∧ Has x "java/lang/String" "value" "[B" (.ref t) U ∧ Has x "java/lang/String" "coder" "B" (.int cd) U ∧ XT.Arr .byte t V U ∧ Cod cd n f V ∧ ∀ j, j < n → ¬ f j < 0 ∧ ¬ 65535 < f j
theorem Txt.mv {x t : Addr} {V : Cell} {cd : Int32} {n : Nat} {f : Nat → Int32} {U U' : State} (h : Txt x t V cd n f U) (hal : U.vm.Alike U'.vm) (hh : U'.heap = U.heap) : Txt x t V cd n f U' := ⟨h.1.mv hal hh, h.2.1.mv hal hh, h.2.2.1.mv hal hh, h.2.2.2.1.mv hal hh, h.2.2.2.2⟩
end StrChars
namespace StrChars.Road
open Jvm Sem ClassFile Op Lib Jvm.Stand Jvm.Free Jvm.Free.XT
open Jvm.Lib.Cold (StaticIs)
theorem consq {a : Array Value} {s : State} {c : Jvm.Cond} {L : List Jvm.Cond} (h0 : c.before a s = true) (h : ∀ w ∈ L, w.before a s = true) : ∀ w ∈ c :: L, w.before a s = true := fun w hw => (List.mem_cons.mp hw).elim (fun e => e ▸ h0) (h w)
/-- the bytes of the chars cs, low before high -/
def wideBytes : List Int32 → List Value
  | [] => []
  | c :: cs => .int (lo8 c) :: .int (hi8 c) :: wideBytes cs
theorem wide_lo (d : Value) : ∀ (cs : List Int32) (j : Nat), j < cs.length → (wideBytes cs).getD (2 * j) d = .int (lo8 (cs.getD j 0))
  | [], j, h => absurd h (Nat.not_lt_zero j)
  | c :: cs, 0, _ => rfl
  | c :: cs, j + 1, h => by
    have q := wide_lo d cs j (by simpa using h)
    rw [show 2 * (j + 1) = 2 * j + 1 + 1 from by omega]
    simpa [wideBytes] using q
theorem wide_hi (d : Value) : ∀ (cs : List Int32) (j : Nat), j < cs.length → (wideBytes cs).getD (2 * j + 1) d = .int (hi8 (cs.getD j 0))
  | [], j, h => absurd h (Nat.not_lt_zero j)
  | c :: cs, 0, _ => rfl
  | c :: cs, j + 1, h => by
    have q := wide_hi d cs j (by simpa using h)
    rw [show 2 * (j + 1) + 1 = 2 * j + 1 + 1 + 1 from by omega]
    simpa [wideBytes] using q
theorem low_at (d : Value) (cs : List Int32) (j : Nat) (h : j < cs.length) : (cs.map fun c => Value.int (lo8 c)).getD j d = .int (lo8 (cs.getD j 0)) := by
  simp [List.getD_eq_getElem?_getD, h]
/-- an array of N2 bytes vs codes the chars cs by the coder cd -/
def CodA (cs : List Int32) (cd N2 : Int32) (vs : List Value) : Prop := (cd = 0 ∧ N2 = Int32.ofNat cs.length ∧ vs = (cs.map fun c => Value.int (lo8 c)) ∧ ∀ c ∈ cs, ¬ 255 < c) ∨ (cd = 1 ∧ N2 = Int32.ofNat (2 * cs.length) ∧ vs = wideBytes cs ∧ ∃ c ∈ cs, 255 < c)
theorem CodA.cod {cs : List Int32} {cd N2 : Int32} {vs : List Value} {V : Cell} (h : CodA cs cd N2 vs) (hn : 2 * cs.length < 2 ^ 31) (hs : V.slots.size = N2.toNatClampNeg) (hv : RoadKit.Has V vs (.int 0)) : Cod cd cs.length (fun j => cs.getD j 0) V := by
  rcases h with ⟨rfl, rfl, rfl, h⟩ | ⟨rfl, rfl, rfl, c, hc, hw⟩
  · rw [n32 (by omega)] at hs
    exact Or.inl ⟨rfl, hs, fun j hj => ⟨by rw [hv j (by omega), low_at _ _ _ hj], by
      have e : cs.getD j 0 = cs[j] := by simp [List.getD_eq_getElem?_getD, hj]
      show ¬ 255 < cs.getD j 0
      rw [e]; exact h _ (List.getElem_mem _)⟩⟩
  · rw [n32 (by omega)] at hs
    obtain ⟨j, hj, rfl⟩ := List.getElem_of_mem hc
    exact Or.inr ⟨rfl, hs, fun j hj => ⟨by rw [hv _ (by omega), wide_lo _ _ _ hj], by rw [hv _ (by omega), wide_hi _ _ _ hj]⟩, j, hj, by
      have e : cs.getD j 0 = cs[j] := by simp [List.getD_eq_getElem?_getD, hj]
      show 255 < cs.getD j 0
      rw [e]; exact hw⟩
/-- an object of exactly java/lang/String, its two fields found: as the laws ask it -/
theorem strObj {Z U : State} {a0 : Array Value} {kI : Nat} (wi : (Jvm.Cond.instantiable ST kI).before a0 Z = true) (al : Z.vm.Alike U.vm) {x : Addr} {v0 c0 : Value} (E : RoadKit.Exa Z U.heap x ST) (V : RoadKit.Fld Z U.heap x ST "value" "[B" v0) (C : RoadKit.Fld Z U.heap x ST "coder" "B" c0) :
    ∃ (D : Cell) (fV fC : Field), Blank ST x D U ∧ Found ST "value" "[B" fV U ∧ Found ST "coder" "B" fC U ∧ D.slots[fV.slot]? = some v0 ∧ D.slots[fC.slot]? = some c0 ∧ RoadKit.slotOf Z ST "value" "[B" = fV.slot ∧ RoadKit.slotOf Z ST "coder" "B" = fC.slot := by
  obtain ⟨D, cfV, kV, iV, fV, hD, gV, stV, knV, obV, asV, slV⟩ := V
  obtain ⟨D', cfC, kC, iC, fC, hD', gC, stC, -, -, asC, slC⟩ := C
  cases hD.symm.trans hD'
  obtain ⟨D2, kD, e1, e2, e3, e4, e5⟩ := E
  cases hD.symm.trans e1
  obtain ⟨c2, k2, i1, i2, i3, -⟩ := Cond.instantiable_spec wi
  cases e2.symm.trans i1
  cases e3.symm.trans i2
  obtain ⟨kU, u1, u2⟩ := al.2.2 _ _ e3
  exact ⟨D, fV, fC, ⟨hD, ⟨knV, fun q hq => by rw [hq] at obV; cases obV⟩, by rw [al.findClass]; exact e2, kU, u1, by rw [u2]; exact i3, by rw [u2]; exact e5 i3⟩, ⟨SBG.found_only al ⟨cfV, kV, iV, gV⟩, stV⟩, ⟨SBG.found_only al ⟨cfC, kC, iC, gC⟩, stC⟩, slV, slC, by simp [RoadKit.slotOf, gV], by simp [RoadKit.slotOf, gC]⟩
theorem sta_is {Z U : State} (al : Z.vm.Alike U.vm) {C n d : String} {v : Value} (S : RoadKit.Sta Z U.heap C n d v) : StaticIs U C n d v := by
  obtain ⟨cfS, iS, kS, fS, st, cS, t1, t2, t3, t4, t5, t6, t7⟩ := S
  exact StaticIs.there (s := { Z with heap := U.heap }) ⟨cfS, iS, kS, fS, st, cS, t1, t2, t3, t4, t5, (fun q => by rw [q] at t6; cases t6), t7⟩ al rfl
end StrChars.Road
namespace StrChars
open Jvm Sem ClassFile Op Lib Jvm.Stand Jvm.Free.XT Jvm.Free.ALB Jvm.Free.JM Jvm.Free
open Jvm.Lib.Cold (StaticIs)
/-- what place i of a byte[]'s cell holds -/
def yv (A : Cell) (i : Nat) : Int32 := match A.slots[i]? with | some (.int x) => x | _ => 0
theorem yv_get {a : Addr} {A : Cell} {U : State} (h : XT.Arr .byte a A U) (ht : Typed .byte A) {i : Nat} (hi : i < A.slots.size) : A.slots[i]? = some (.int (yv A i)) := by
  have e := Array.getElem?_eq_getElem hi
  have f := ht i _ e
  unfold yv; rw [e]
  generalize A.slots[i] = v at f
  cases v <;> simp [fits] at f ⊢
/-- the two arrays are equal, place for place -/
def EqC (A B : Cell) : Prop := A.slots.size = B.slots.size ∧ ∀ i, i < A.slots.size → yv A i = yv B i
/-- a boolean that says whether p -/
def Says01 (q : Prop) (r : Option Value) (s u : State) : Prop := ∃ v : Int32, r = some (.int v) ∧ u.heap = s.heap ∧ ((v = 1 ∧ q) ∨ (v = 0 ∧ ¬ q))
theorem Says01.mv {q : Prop} : ∀ r (U U' V V' : State), U'.heap = U.heap → V.vm.Alike V'.vm → V'.heap = V.heap → Says01 q r U V → Says01 q r U' V' :=
  fun r U U' V V' h1 _ h2 ⟨v, a, b, c⟩ => ⟨v, a, by rw [h1, h2]; exact b, c⟩
namespace LEq
def yN : MethodName := ⟨"java/lang/StringLatin1", "equals", "([B[B)Z"⟩
abbrev yB : ByteArray := jdk_43_method_13_code
theorem d0 : decode yB 0 = .ok (.aload_n 0, 1) := by decide +kernel
theorem d1 : decode yB 1 = .ok (.arraylength, 1) := by decide +kernel
theorem d2 : decode yB 2 = .ok (.aload_n 1, 1) := by decide +kernel
theorem d3 : decode yB 3 = .ok (.arraylength, 1) := by decide +kernel
theorem d4 : decode yB 4 = .ok (.if_icmp (.ne) 30, 3) := by decide +kernel
theorem d7 : decode yB 7 = .ok (.iconst 0, 1) := by decide +kernel
theorem d8 : decode yB 8 = .ok (.istore_n 2, 1) := by decide +kernel
theorem d9 : decode yB 9 = .ok (.iload_n 2, 1) := by decide +kernel
theorem d10 : decode yB 10 = .ok (.aload_n 0, 1) := by decide +kernel
theorem d11 : decode yB 11 = .ok (.arraylength, 1) := by decide +kernel
theorem d12 : decode yB 12 = .ok (.if_icmp (.ge) 20, 3) := by decide +kernel
theorem d15 : decode yB 15 = .ok (.aload_n 0, 1) := by decide +kernel
theorem d16 : decode yB 16 = .ok (.iload_n 2, 1) := by decide +kernel
theorem d17 : decode yB 17 = .ok (.baload, 1) := by decide +kernel
theorem d18 : decode yB 18 = .ok (.aload_n 1, 1) := by decide +kernel
theorem d19 : decode yB 19 = .ok (.iload_n 2, 1) := by decide +kernel
theorem d20 : decode yB 20 = .ok (.baload, 1) := by decide +kernel
theorem d21 : decode yB 21 = .ok (.if_icmp (.eq) 5, 3) := by decide +kernel
theorem d24 : decode yB 24 = .ok (.iconst 0, 1) := by decide +kernel
theorem d25 : decode yB 25 = .ok (.ireturn, 1) := by decide +kernel
theorem d26 : decode yB 26 = .ok (.iinc 2 1, 3) := by decide +kernel
theorem d29 : decode yB 29 = .ok (.goto (-20), 3) := by decide +kernel
theorem d32 : decode yB 32 = .ok (.iconst 1, 1) := by decide +kernel
theorem d33 : decode yB 33 = .ok (.ireturn, 1) := by decide +kernel
theorem d34 : decode yB 34 = .ok (.iconst 0, 1) := by decide +kernel
theorem d35 : decode yB 35 = .ok (.ireturn, 1) := by decide +kernel
def site : List Cond := []
def tab : Cond := tabOf yN yB 3 (some .boolean) site
def P (a : Addr) (A : Cell) (b : Addr) (B : Cell) (args : Array Value) (s : State) : Prop := args = #[.ref a, .ref b] ∧ XT.Arr .byte a A s ∧ Typed .byte A ∧ XT.Arr .byte b B s ∧ Typed .byte B
/-- whether two byte[] are equal, place for place -/
theorem law (l : Launch) (a : Addr) (A : Cell) (b : Addr) (B : Cell) : Law l yN 2 2 0 0 yB 3 (some .boolean) site (P a A b B) (Says01 (EqC A B)) [] 0 0 := by
  refine Law.of_walk (plainFor_of_name (by decide +kernel)) (by decide +kernel) (by decide +kernel) (by decide) (fun _ _ h => by rw [h.1]; rfl) (fun _ U U' hal hh h => ⟨h.1, h.2.1.mv hal hh, h.2.2.1, h.2.2.2.1.mv hal hh, h.2.2.2.2⟩) (fun r U U' V V' h1 hal h2 h => Says01.mv r U U' V V' h1 hal h2 h) ?_
  intro p e s m args below meth c s₁ X0 hexec hbytes hml hret hlk hnm hown hh0 W hP
  obtain ⟨rfl, hA, tA, hB, tB⟩ := hP
  have a31 := hA.2.2.2
  have b31 := hB.2.2.2
  have hA0 := hA.mv X0.warmed.alike hh0
  have hB0 := hB.mv X0.warmed.alike hh0
  have c1 : Steps p.tables e below (s₁.setTop (entryFrame m #[.ref a, .ref b] 3)) (s₁.setTop (mkF m 0 #[.val (.ref a), .val (.ref b), .unset] [])) := entry rfl
  have c2 : Steps p.tables e below (s₁.setTop (entryFrame m #[.ref a, .ref b] 3)) (s₁.setTop (mkF m 4 #[.val (.ref a), .val (.ref b), .unset] [.int (Int32.ofNat B.slots.size), .int (Int32.ofNat A.slots.size)])) := c1.trans (by
    refine XS.aloadN X0.here hexec rfl (hb hbytes d0) rfl rfl ?_
    refine X0.alen hexec hA0 rfl rfl (hb hbytes d1) ?_
    refine XS.aloadN X0.here hexec rfl (hb hbytes d2) rfl rfl ?_
    refine X0.alen hexec hB0 rfl rfl (hb hbytes d3) ?_
    exact Steps.refl _)
  by_cases hs : A.slots.size = B.slots.size
  · have c3 : Steps p.tables e below (s₁.setTop (entryFrame m #[.ref a, .ref b] 3)) (s₁.setTop (mkF m 9 #[.val (.ref a), .val (.ref b), .val (.int 0)] [])) := c2.trans (by
      refine XS.icmpNo X0.here hexec rfl (hb hbytes d4) rfl (ii_ne_f (by rw [hs])) ?_
      refine iconstV X0.here hexec rfl 0 (hb hbytes d7) (by decide) ?_
      refine XS.istoreN X0.here hexec rfl (hb hbytes d8) rfl rfl ?_
      exact Steps.refl _)
    have loop : ∀ (r i : Nat), i + r = A.slots.size → (∀ j, j < i → yv A j = yv B j) → Steps p.tables e below (s₁.setTop (entryFrame m #[.ref a, .ref b] 3)) (s₁.setTop (mkF m 9 #[.val (.ref a), .val (.ref b), .val (.int (Int32.ofNat i))] [])) → ∃ (pc : Nat) (Ls : Array Slot) (v : Int32), (pc = 25 ∨ pc = 33) ∧ ((v = 1 ∧ EqC A B) ∨ (v = 0 ∧ ¬ EqC A B)) ∧ Steps p.tables e below (s₁.setTop (entryFrame m #[.ref a, .ref b] 3)) (s₁.setTop (mkF m pc Ls [.int v])) := by
      intro r
      induction r with
      | zero =>
        intro i hi he cl
        exact ⟨33, _, 1, Or.inr rfl, Or.inl ⟨rfl, hs, fun j hj => he j (by omega)⟩, cl.trans (by
          refine XS.iloadN X0.here hexec rfl (hb hbytes d9) rfl ?_
          refine XS.aloadN X0.here hexec rfl (hb hbytes d10) rfl rfl ?_
          refine X0.alen hexec hA0 rfl rfl (hb hbytes d11) ?_
          refine XS.icmpYes X0.here hexec rfl (pc0 := 12) rfl (hb hbytes d12) rfl (ii_ge_t (nlt32 (by omega) (by omega))) (by decide) rfl ?_
          refine iconstV X0.here hexec rfl 1 (hb hbytes d32) (by decide) ?_
          exact Steps.refl _)⟩
      | succ r ih =>
        intro i hi he cl
        have c4 : Steps p.tables e below (s₁.setTop (entryFrame m #[.ref a, .ref b] 3)) (s₁.setTop (mkF m 21 #[.val (.ref a), .val (.ref b), .val (.int (Int32.ofNat i))] [.int (yv B i), .int (yv A i)])) := cl.trans (by
          refine XS.iloadN X0.here hexec rfl (hb hbytes d9) rfl ?_
          refine XS.aloadN X0.here hexec rfl (hb hbytes d10) rfl rfl ?_
          refine X0.alen hexec hA0 rfl rfl (hb hbytes d11) ?_
          refine XS.icmpNo X0.here hexec rfl (hb hbytes d12) rfl (ii_ge_f (lt32 (by omega) (by omega))) ?_
          refine XS.aloadN X0.here hexec rfl (hb hbytes d15) rfl rfl ?_
          refine XS.iloadN X0.here hexec rfl (hb hbytes d16) rfl ?_
          refine X0.aget hexec hA0 rfl (yv_get hA tA (i := i) (by omega)) rfl rfl (hb hbytes d17) ?_
          refine XS.aloadN X0.here hexec rfl (hb hbytes d18) rfl rfl ?_
          refine XS.iloadN X0.here hexec rfl (hb hbytes d19) rfl ?_
          refine X0.aget hexec hB0 rfl (yv_get hB tB (i := i) (by omega)) rfl rfl (hb hbytes d20) ?_
          exact Steps.refl _)
        by_cases hv : yv A i = yv B i
        · have c5 : Steps p.tables e below (s₁.setTop (entryFrame m #[.ref a, .ref b] 3)) (s₁.setTop (mkF m 9 #[.val (.ref a), .val (.ref b), .val (.int (Int32.ofNat i + 1))] [])) := c4.trans (by
            refine XS.icmpYes X0.here hexec rfl (pc0 := 21) rfl (hb hbytes d21) rfl (ii_eq_t hv) (by decide) rfl ?_
            refine iincV X0.here hexec rfl 1 (hb hbytes d26) (by decide) rfl rfl ?_
            refine XS.goto X0.here hexec rfl (pc0 := 29) rfl (hb hbytes d29) (by decide) rfl ?_
            exact Steps.refl _)
          rw [succ32] at c5
          exact ih (i + 1) (by omega) (fun j hj => by
            by_cases e : j = i
            · rw [e]; exact hv
            · exact he j (by omega)) c5
        · exact ⟨25, _, 0, Or.inl rfl, Or.inr ⟨rfl, fun q => hv (q.2 i (by omega))⟩, c4.trans (by
            refine XS.icmpNo X0.here hexec rfl (hb hbytes d21) rfl (ii_eq_f hv) ?_
            refine iconstV X0.here hexec rfl 0 (hb hbytes d24) (by decide) ?_
            exact Steps.refl _)⟩
    obtain ⟨pc, Ls, v, hpc, hv, cz⟩ := loop A.slots.size 0 (by omega) (fun j hj => absurd hj (Nat.not_lt_zero j)) c3
    have nv : narrow .boolean (.int v) = .int v := by rcases hv with ⟨rfl, -⟩ | ⟨rfl, -⟩ <;> rfl
    rcases hpc with rfl | rfl
    · exact ⟨s₁, some (.int v), _, _, _, X0, rfl, rfl, rfl, (fun h => by cases h), ⟨v, rfl, hh0, hv⟩, fun fs hl => cz.trans (X0.ireturnOut hexec hret nv (Or.inr (Or.inl rfl)) (hb hbytes d25) hl)⟩
    · exact ⟨s₁, some (.int v), _, _, _, X0, rfl, rfl, rfl, (fun h => by cases h), ⟨v, rfl, hh0, hv⟩, fun fs hl => cz.trans (X0.ireturnOut hexec hret nv (Or.inr (Or.inl rfl)) (hb hbytes d33) hl)⟩
  · have c3 : Steps p.tables e below (s₁.setTop (entryFrame m #[.ref a, .ref b] 3)) (s₁.setTop (mkF m 35 #[.val (.ref a), .val (.ref b), .unset] [.int 0])) := c2.trans (by
      refine XS.icmpYes X0.here hexec rfl (pc0 := 4) rfl (hb hbytes d4) rfl (ii_ne_t (ne32 a31 b31 hs)) (by decide) rfl ?_
      refine iconstV X0.here hexec rfl 0 (hb hbytes d34) (by decide) ?_
      exact Steps.refl _)
    exact ⟨s₁, some (.int 0), _, _, _, X0, rfl, rfl, rfl, (fun h => by cases h), ⟨0, rfl, hh0, Or.inr ⟨rfl, fun q => hs q.1⟩⟩, fun fs hl => c3.trans (X0.ireturnOut hexec hret rfl (Or.inr (Or.inl rfl)) (hb hbytes d35) hl)⟩
end LEq
theorem Cod.ty {cd : Int32} {n : Nat} {f : Nat → Int32} {V : Cell} (h : Cod cd n f V) : Typed .byte V := fun i v hv => by
  have hi : i < V.slots.size := (Array.getElem?_eq_some_iff.mp hv).1
  rcases h with ⟨-, k1, k2⟩ | ⟨-, k1, k2, -⟩
  · rw [(k2 i (by omega)).1] at hv; cases hv; exact fits_lo8 _
  · rcases Nat.mod_two_eq_zero_or_one i with e | e
    · obtain ⟨j, rfl⟩ : ∃ j, i = 2 * j := ⟨i / 2, by omega⟩
      rw [(k2 j (by omega)).1] at hv; cases hv; exact fits_lo8 _
    · obtain ⟨j, rfl⟩ : ∃ j, i = 2 * j + 1 := ⟨i / 2, by omega⟩
      rw [(k2 j (by omega)).2] at hv; cases hv; exact fits_lo8 _
/-- the same text -/
def SameT (n : Nat) (f : Nat → Int32) (k : Nat) (g : Nat → Int32) : Prop := n = k ∧ ∀ j, j < n → f j = g j
theorem lo8_inj {x y : Int32} (h0 : ¬ x < 0) (h1 : ¬ 255 < x) (k0 : ¬ y < 0) (k1 : ¬ 255 < y) (h : lo8 x = lo8 y) : x = y := by
  rw [← lo8_mask h0 h1, ← lo8_mask k0 k1, h]
/-- arrays coded by one coder are equal just where the texts are -/
theorem Cod.eqv {cd : Int32} {n k : Nat} {f g : Nat → Int32} {V V' : Cell} (h : Cod cd n f V) (h' : Cod cd k g V') (hf : ∀ j, j < n → ¬ f j < 0 ∧ ¬ 65535 < f j) (hg : ∀ j, j < k → ¬ g j < 0 ∧ ¬ 65535 < g j) : EqC V V' ↔ SameT n f k g := by
  have yvv : ∀ {W : Cell} {i : Nat} {x : Int32}, W.slots[i]? = some (.int x) → yv W i = x := fun q => by unfold yv; rw [q]
  rcases h with ⟨rfl, k1, k2⟩ | ⟨rfl, k1, k2, -⟩
  · rcases h' with ⟨-, m1, m2⟩ | ⟨e, -⟩
    · constructor
      · rintro ⟨e1, e2⟩
        refine ⟨by omega, fun j hj => ?_⟩
        have q := e2 j (by omega)
        rw [yvv (k2 j hj).1, yvv (m2 j (by omega)).1] at q
        exact lo8_inj (hf j hj).1 (k2 j hj).2 (hg j (by omega)).1 (m2 j (by omega)).2 q
      · rintro ⟨rfl, e2⟩
        refine ⟨by omega, fun j hj => ?_⟩
        rw [yvv (k2 j (by omega)).1, yvv (m2 j (by omega)).1, e2 j (by omega)]
    · exact absurd e (by decide)
  · rcases h' with ⟨e, -⟩ | ⟨-, m1, m2, -⟩
    · exact absurd e (by decide)
    · constructor
      · rintro ⟨e1, e2⟩
        refine ⟨by omega, fun j hj => ?_⟩
        have q1 := e2 (2 * j) (by omega)
        have q2 := e2 (2 * j + 1) (by omega)
        rw [yvv (k2 j hj).1, yvv (m2 j (by omega)).1] at q1
        rw [yvv (k2 j hj).2, yvv (m2 j (by omega)).2] at q2
        rw [← pair_says (hf j hj).1 (hf j hj).2, ← pair_says (hg j (by omega)).1 (hg j (by omega)).2, q1, q2]
      · rintro ⟨rfl, e2⟩
        refine ⟨by omega, fun i hi => ?_⟩
        rcases Nat.mod_two_eq_zero_or_one i with e | e
        · obtain ⟨j, rfl⟩ : ∃ j, i = 2 * j := ⟨i / 2, by omega⟩
          rw [yvv (k2 j (by omega)).1, yvv (m2 j (by omega)).1, e2 j (by omega)]
        · obtain ⟨j, rfl⟩ : ∃ j, i = 2 * j + 1 := ⟨i / 2, by omega⟩
          rw [yvv (k2 j (by omega)).2, yvv (m2 j (by omega)).2, e2 j (by omega)]
/-- two codings differ: so do the texts -/
theorem Cod.dif {cd cd' : Int32} {n k : Nat} {f g : Nat → Int32} {V V' : Cell} (h : Cod cd n f V) (h' : Cod cd' k g V') (hne : ¬ cd = cd') : ¬ SameT n f k g := by
  rintro ⟨rfl, e⟩
  rcases h with ⟨rfl, -, k2⟩ | ⟨rfl, -, -, j, hj, hw⟩
  · rcases h' with ⟨rfl, -⟩ | ⟨-, -, -, j, hj, hw⟩
    · exact hne rfl
    · exact (k2 j hj).2 (by rw [e j hj]; exact hw)
  · rcases h' with ⟨-, -, m2⟩ | ⟨rfl, -⟩
    · exact (m2 j hj).2 (by rw [← e j hj]; exact hw)
    · exact hne rfl
/-- an object of exactly C is an instance of C -/
theorem cinst {p : Program} {l : Launch} {e : Env} {R : Room} {s : State} {m : MethodId} {args : Array Value} {below : List Frame} {meth : Method} {c : Code} {T : State} {locs : List Loc} {cells slots : Nat} (X : Stand p l e R s m args below meth c T locs cells slots) (hexec : p.tables.exec = Jvm.exec) {own C : String} {index : Nat} (hown : s.vm.findClass own = some m.cls) (hlink : (Cond.classLink own index C).before args s = true) {a : Addr} (hE : Exact C a T)
    {g : JFrame} (hg : g.method = m) {rest : List Value} (hstack : g.stack = .ref a :: rest) (hdg : decode c.code g.pc = .ok (.instanceof index, 3)) :
    ∃ T', Stand p l e R s m args below meth c T' locs cells slots ∧ T'.heap = T.heap ∧ ∀ target, Steps p.tables e below (T'.setTop { g with pc := g.pc + 3, stack := .int 1 :: rest }) target → Steps p.tables e below (T.setTop g) target := by
  obtain ⟨cB, h1, D, h2, h3, h4⟩ := hE
  have h1' : s.vm.findClass C = some cB := by rw [← X.warmed.alike.findClass]; exact h1
  obtain ⟨vm', X', st⟩ := X.instanceofYes hexec hown hlink h2 h4 h1' (by rw [h3]; exact Jvm.Free.SB.assignable_self _ _) hg hstack hdg
  exact ⟨_, X', rfl, st⟩
theorem cself {p : Program} {l : Launch} {e : Env} {R : Room} {s : State} {m : MethodId} {args : Array Value} {below : List Frame} {meth : Method} {c : Code} {T : State} {locs : List Loc} {cells slots : Nat} (X : Stand p l e R s m args below meth c T locs cells slots) (hexec : p.tables.exec = Jvm.exec) {own C : String} {index : Nat} (hown : s.vm.findClass own = some m.cls) (hlink : (Cond.classLink own index C).before args s = true) {a : Addr} (hE : Exact C a T)
    {g : JFrame} (hg : g.method = m) {rest : List Value} (hstack : g.stack = .ref a :: rest) (hdg : decode c.code g.pc = .ok (.checkcast index, 3)) :
    ∃ T', Stand p l e R s m args below meth c T' locs cells slots ∧ T'.heap = T.heap ∧ ∀ target, Steps p.tables e below (T'.setTop { g with pc := g.pc + 3, stack := .ref a :: rest }) target → Steps p.tables e below (T.setTop g) target := by
  obtain ⟨cB, h1, D, h2, h3, h4⟩ := hE
  have h1' : s.vm.findClass C = some cB := by rw [← X.warmed.alike.findClass]; exact h1
  obtain ⟨vm', X', st⟩ := X.checkcastYes hexec hown hlink h2 h4 h1' (by rw [h3]; exact Jvm.Free.SB.assignable_self _ _) hg hstack hdg
  exact ⟨_, X', rfl, fun t h => st t (by rw [← hstack] at h; exact h)⟩
namespace SEq
def yN : MethodName := ⟨"java/lang/String", "equals", "(Ljava/lang/Object;)Z"⟩
abbrev yB : ByteArray := jdk_42_method_66_code
theorem d0 : decode yB 0 = .ok (.aload_n 0, 1) := by decide +kernel
theorem d1 : decode yB 1 = .ok (.aload_n 1, 1) := by decide +kernel
theorem d2 : decode yB 2 = .ok (.if_acmp (.ne) 5, 3) := by decide +kernel
theorem d5 : decode yB 5 = .ok (.iconst 1, 1) := by decide +kernel
theorem d6 : decode yB 6 = .ok (.ireturn, 1) := by decide +kernel
theorem d7 : decode yB 7 = .ok (.aload_n 1, 1) := by decide +kernel
theorem d8 : decode yB 8 = .ok (.instanceof 10, 3) := by decide +kernel
theorem d11 : decode yB 11 = .ok (.ifCond (.eq) 43, 3) := by decide +kernel
theorem d14 : decode yB 14 = .ok (.aload_n 1, 1) := by decide +kernel
theorem d15 : decode yB 15 = .ok (.checkcast 10, 3) := by decide +kernel
theorem d18 : decode yB 18 = .ok (.astore_n 2, 1) := by decide +kernel
theorem d19 : decode yB 19 = .ok (.getstatic 38, 3) := by decide +kernel
theorem d22 : decode yB 22 = .ok (.ifCond (.eq) 14, 3) := by decide +kernel
theorem d25 : decode yB 25 = .ok (.aload_n 0, 1) := by decide +kernel
theorem d26 : decode yB 26 = .ok (.getfield 15, 3) := by decide +kernel
theorem d29 : decode yB 29 = .ok (.aload_n 2, 1) := by decide +kernel
theorem d30 : decode yB 30 = .ok (.getfield 15, 3) := by decide +kernel
theorem d33 : decode yB 33 = .ok (.if_icmp (.ne) 21, 3) := by decide +kernel
theorem d36 : decode yB 36 = .ok (.aload_n 0, 1) := by decide +kernel
theorem d37 : decode yB 37 = .ok (.getfield 9, 3) := by decide +kernel
theorem d40 : decode yB 40 = .ok (.aload_n 2, 1) := by decide +kernel
theorem d41 : decode yB 41 = .ok (.getfield 9, 3) := by decide +kernel
theorem d44 : decode yB 44 = .ok (.invokestatic 541, 3) := by decide +kernel
theorem d47 : decode yB 47 = .ok (.ifCond (.eq) 7, 3) := by decide +kernel
theorem d50 : decode yB 50 = .ok (.iconst 1, 1) := by decide +kernel
theorem d51 : decode yB 51 = .ok (.goto 4, 3) := by decide +kernel
theorem d54 : decode yB 54 = .ok (.iconst 0, 1) := by decide +kernel
theorem d55 : decode yB 55 = .ok (.ireturn, 1) := by decide +kernel
def site : List Cond := [.classLink "java/lang/String" 10 "java/lang/String", .fieldLink "java/lang/String" 38 "java/lang/String" "COMPACT_STRINGS" "Z", .fieldLink "java/lang/String" 15 "java/lang/String" "coder" "B", .fieldLink "java/lang/String" 9 "java/lang/String" "value" "[B", LEq.tab] ++ staticW "java/lang/String" 541 LEq.yN
def tab : Cond := tabOf yN yB 3 (some .boolean) site
def P (x t : Addr) (V : Cell) (cd : Int32) (n : Nat) (f : Nat → Int32) (y t' : Addr) (V' : Cell) (cd' : Int32) (k : Nat) (g : Nat → Int32) (z : Int32) (args : Array Value) (s : State) : Prop := args = #[.ref x, .ref y] ∧ Txt x t V cd n f s ∧ Txt y t' V' cd' k g s ∧ StaticIs s "java/lang/String" "COMPACT_STRINGS" "Z" (.int z) ∧ ¬ z = 0
/-- equals(Object) of two Strings: whether the texts are the same -/
theorem law (l : Launch) (x t : Addr) (V : Cell) (cd : Int32) (n : Nat) (f : Nat → Int32) (y t' : Addr) (V' : Cell) (cd' : Int32) (k : Nat) (g : Nat → Int32) (z : Int32) : Law l yN 2 1 1 14 yB 3 (some .boolean) site (P x t V cd n f y t' V' cd' k g z) (Says01 (SameT n f k g)) [] 0 0 := by
  refine Law.of_walk (plainFor_of_name (by decide +kernel)) (by decide +kernel) (by decide +kernel) (by decide) (fun _ _ h => by rw [h.1]; rfl) (fun _ U U' hal hh h => ⟨h.1, h.2.1.mv hal hh, h.2.2.1.mv hal hh, h.2.2.2.1.there hal hh, h.2.2.2.2⟩) (fun r U U' V V' h1 hal h2 h => Says01.mv r U U' V V' h1 hal h2 h) ?_
  intro p e s m args below meth c s₁ X0 hexec hbytes hml hret hlk hnm hown hh0 W hP
  obtain ⟨rfl, hx, hy, s1, hz⟩ := hP
  have c1 : Steps p.tables e below (s₁.setTop (entryFrame m #[.ref x, .ref y] 3)) (s₁.setTop (mkF m 2 #[.val (.ref x), .val (.ref y), .unset] [.ref y, .ref x])) := Steps.trans (entry rfl) (by
    show Steps p.tables e below (s₁.setTop (mkF m 0 #[.val (.ref x), .val (.ref y), .unset] [])) _
    refine XS.aloadN X0.here hexec rfl (hb hbytes d0) rfl rfl ?_
    refine XS.aloadN X0.here hexec rfl (hb hbytes d1) rfl rfl ?_
    exact Steps.refl _)
  by_cases hxy : x = y
  · have c2 : Steps p.tables e below (s₁.setTop (entryFrame m #[.ref x, .ref y] 3)) (s₁.setTop (mkF m 6 #[.val (.ref x), .val (.ref y), .unset] [.int 1])) := c1.trans (by
      refine acmpNo X0.here hexec rfl (hb hbytes d2) rfl rfl rfl (by simp [acmp, hxy]) ?_
      refine iconstV X0.here hexec rfl 1 (hb hbytes d5) (by decide) ?_
      exact Steps.refl _)
    subst hxy
    have ec : cd = cd' := by
      obtain ⟨D, fd, a1, a2, a3⟩ := hx.2.2.1
      obtain ⟨D', fd', b1, b2, b3⟩ := hy.2.2.1
      cases a1.symm.trans b1
      obtain ⟨q1, q2, q3, q4⟩ := a2.1
      obtain ⟨r1, r2, r3, r4⟩ := b2.1
      cases q4.symm.trans r4
      cases a3.symm.trans b3; rfl
    have et : t = t' := by
      obtain ⟨D, fd, a1, a2, a3⟩ := hx.2.1
      obtain ⟨D', fd', b1, b2, b3⟩ := hy.2.1
      cases a1.symm.trans b1
      obtain ⟨q1, q2, q3, q4⟩ := a2.1
      obtain ⟨r1, r2, r3, r4⟩ := b2.1
      cases q4.symm.trans r4
      cases a3.symm.trans b3; rfl
    subst ec et
    have ev : V = V' := by cases hx.2.2.2.1.1.symm.trans hy.2.2.2.1.1; rfl
    subst ev
    have hs : SameT n f k g := (Cod.eqv hx.2.2.2.2.1 hy.2.2.2.2.1 hx.2.2.2.2.2 hy.2.2.2.2.2).mp ⟨rfl, fun _ _ => rfl⟩
    exact ⟨s₁, some (.int 1), _, _, _, X0, rfl, rfl, rfl, (fun h => by cases h), ⟨1, rfl, hh0, Or.inl ⟨rfl, hs⟩⟩, fun fs hl => c2.trans (X0.ireturnOut hexec hret rfl (Or.inr (Or.inl rfl)) (hb hbytes d6) hl)⟩
  · have c2 : Steps p.tables e below (s₁.setTop (entryFrame m #[.ref x, .ref y] 3)) (s₁.setTop (mkF m 8 #[.val (.ref x), .val (.ref y), .unset] [.ref y])) := c1.trans (by
      refine acmpYes X0.here hexec rfl (pc0 := 2) rfl (hb hbytes d2) rfl rfl rfl (by simp [acmp, hxy]) (by decide) rfl ?_
      refine XS.aloadN X0.here hexec rfl (hb hbytes d7) rfl rfl ?_
      exact Steps.refl _)
    obtain ⟨T3, X3, q3, st3⟩ := cinst X0 hexec hown (wk W (.classLink "java/lang/String" 10 "java/lang/String")) (hy.mv X0.warmed.alike hh0).1 (g := (mkF m 8 #[.val (.ref x), .val (.ref y), .unset] [.ref y])) rfl (rest := []) rfl (hb hbytes d8)
    have hh3 := q3.trans hh0
    have c4 : Steps p.tables e below (s₁.setTop (entryFrame m #[.ref x, .ref y] 3)) (T3.setTop (mkF m 15 #[.val (.ref x), .val (.ref y), .unset] [.ref y])) := (c2.trans (st3 _ (Steps.refl _))).trans (by
      refine XS.ifNo X3.here hexec rfl (hb hbytes d11) rfl (i0_eq_f (by decide)) ?_
      refine XS.aloadN X3.here hexec rfl (hb hbytes d14) rfl rfl ?_
      exact Steps.refl _)
    obtain ⟨T5, X5, q5, st5⟩ := cself X3 hexec hown (wk W (.classLink "java/lang/String" 10 "java/lang/String")) (hy.mv X3.warmed.alike hh3).1 (g := (mkF m 15 #[.val (.ref x), .val (.ref y), .unset] [.ref y])) rfl (rest := []) rfl (hb hbytes d15)
    have hh5 := q5.trans hh3
    have c6 : Steps p.tables e below (s₁.setTop (entryFrame m #[.ref x, .ref y] 3)) (T5.setTop (mkF m 19 #[.val (.ref x), .val (.ref y), .val (.ref y)] [])) := (c4.trans (st5 _ (Steps.refl _))).trans (by
      refine XS.astoreN X5.here hexec rfl (hb hbytes d18) rfl rfl rfl ?_
      exact Steps.refl _)
    obtain ⟨T7, X7, q7, st7⟩ := X5.sget hexec hown (wk W (.fieldLink "java/lang/String" 38 "java/lang/String" "COMPACT_STRINGS" "Z")) s1 (fun _ _ h => by rw [hh5]; exact h) (g := (mkF m 19 #[.val (.ref x), .val (.ref y), .val (.ref y)] [])) rfl (hb hbytes d19)
    have hh7 := q7.trans hh5
    have c8 : Steps p.tables e below (s₁.setTop (entryFrame m #[.ref x, .ref y] 3)) (T7.setTop (mkF m 26 #[.val (.ref x), .val (.ref y), .val (.ref y)] [.ref x])) := (c6.trans (st7 _ (Steps.refl _))).trans (by
      refine XS.ifNo X7.here hexec rfl (hb hbytes d22) rfl (i0_eq_f hz) ?_
      refine XS.aloadN X7.here hexec rfl (hb hbytes d25) rfl rfl ?_
      exact Steps.refl _)
    obtain ⟨T9, X9, q9, st9⟩ := X7.hget hexec hown (wk W (.fieldLink "java/lang/String" 15 "java/lang/String" "coder" "B")) (hx.mv X7.warmed.alike hh7).2.2.1 (g := (mkF m 26 #[.val (.ref x), .val (.ref y), .val (.ref y)] [.ref x])) rfl (rest := []) rfl (hb hbytes d26)
    have hh9 := q9.trans hh7
    have c10 : Steps p.tables e below (s₁.setTop (entryFrame m #[.ref x, .ref y] 3)) (T9.setTop (mkF m 30 #[.val (.ref x), .val (.ref y), .val (.ref y)] [.ref y, .int cd])) := (c8.trans (st9 _ (Steps.refl _))).trans (by
      refine XS.aloadN X9.here hexec rfl (hb hbytes d29) rfl rfl ?_
      exact Steps.refl _)
    obtain ⟨T11, X11, q11, st11⟩ := X9.hget hexec hown (wk W (.fieldLink "java/lang/String" 15 "java/lang/String" "coder" "B")) (hy.mv X9.warmed.alike hh9).2.2.1 (g := (mkF m 30 #[.val (.ref x), .val (.ref y), .val (.ref y)] [.ref y, .int cd])) rfl (rest := [.int cd]) rfl (hb hbytes d30)
    have hh11 := q11.trans hh9
    have c12 : Steps p.tables e below (s₁.setTop (entryFrame m #[.ref x, .ref y] 3)) (T11.setTop (mkF m 33 #[.val (.ref x), .val (.ref y), .val (.ref y)] [.int cd', .int cd])) := c10.trans (st11 _ (Steps.refl _))
    by_cases hcd : cd = cd'
    · subst hcd
      have c13 : Steps p.tables e below (s₁.setTop (entryFrame m #[.ref x, .ref y] 3)) (T11.setTop (mkF m 37 #[.val (.ref x), .val (.ref y), .val (.ref y)] [.ref x])) := c12.trans (by
        refine XS.icmpNo X11.here hexec rfl (hb hbytes d33) rfl (ii_ne_f rfl) ?_
        refine XS.aloadN X11.here hexec rfl (hb hbytes d36) rfl rfl ?_
        exact Steps.refl _)
      obtain ⟨T14, X14, q14, st14⟩ := X11.hget hexec hown (wk W (.fieldLink "java/lang/String" 9 "java/lang/String" "value" "[B")) (hx.mv X11.warmed.alike hh11).2.1 (g := (mkF m 37 #[.val (.ref x), .val (.ref y), .val (.ref y)] [.ref x])) rfl (rest := []) rfl (hb hbytes d37)
      have hh14 := q14.trans hh11
      have c15 : Steps p.tables e below (s₁.setTop (entryFrame m #[.ref x, .ref y] 3)) (T14.setTop (mkF m 41 #[.val (.ref x), .val (.ref y), .val (.ref y)] [.ref y, .ref t])) := (c13.trans (st14 _ (Steps.refl _))).trans (by
        refine XS.aloadN X14.here hexec rfl (hb hbytes d40) rfl rfl ?_
        exact Steps.refl _)
      obtain ⟨T16, X16, q16, st16⟩ := X14.hget hexec hown (wk W (.fieldLink "java/lang/String" 9 "java/lang/String" "value" "[B")) (hy.mv X14.warmed.alike hh14).2.1 (g := (mkF m 41 #[.val (.ref x), .val (.ref y), .val (.ref y)] [.ref y, .ref t])) rfl (rest := [.ref t]) rfl (hb hbytes d41)
      have hh16 := q16.trans hh14
      have c17 : Steps p.tables e below (s₁.setTop (entryFrame m #[.ref x, .ref y] 3)) (T16.setTop (mkF m 44 #[.val (.ref x), .val (.ref y), .val (.ref y)] [.ref t', .ref t])) := c15.trans (st16 _ (Steps.refl _))
      obtain ⟨v18, T18, X18, E18, g18⟩ := X16.callS hexec (LEq.law l t V t' V') hown (wks W (staticW "java/lang/String" 541 LEq.yN)) (wk W LEq.tab) (W := 0) (Nat.le_of_ble_eq_true rfl) (Nat.le_of_ble_eq_true rfl) (Nat.le_refl _) (Nat.le_refl _) (g := (mkF m 44 #[.val (.ref x), .val (.ref y), .val (.ref y)] [.ref t', .ref t])) rfl (by rw [hml]; rfl) c17 (argsL := [.ref t, .ref t']) (rest := []) rfl rfl (by show 2 * 0 + 0 ≤ _; decide) (hb hbytes d44) (⟨rfl, hx.2.2.2.1.mv X16.warmed.alike hh16, hx.2.2.2.2.1.ty, hy.2.2.2.1.mv X16.warmed.alike hh16, hy.2.2.2.2.1.ty⟩)
      obtain ⟨v, rfl, q18, hv⟩ := E18
      have iff := Cod.eqv hx.2.2.2.2.1 hy.2.2.2.2.1 hx.2.2.2.2.2 hy.2.2.2.2.2
      rcases hv with ⟨rfl, he⟩ | ⟨rfl, he⟩
      · have c19 : Steps p.tables e below (s₁.setTop (entryFrame m #[.ref x, .ref y] 3)) (T18.setTop (mkF m 55 #[.val (.ref x), .val (.ref y), .val (.ref y)] [.int 1])) := Steps.trans g18 (by
          refine XS.ifNo X18.here hexec rfl (hb hbytes d47) rfl (i0_eq_f (by decide)) ?_
          refine iconstV X18.here hexec rfl 1 (hb hbytes d50) (by decide) ?_
          refine XS.goto X18.here hexec rfl (pc0 := 51) rfl (hb hbytes d51) (by decide) rfl ?_
          exact Steps.refl _)
        exact ⟨T18, some (.int 1), _, _, _, X18, rfl, rfl, rfl, (fun h => by cases h), ⟨1, rfl, q18.trans hh16, Or.inl ⟨rfl, iff.mp he⟩⟩, fun fs hl => c19.trans (X18.ireturnOut hexec hret rfl (Or.inr (Or.inl rfl)) (hb hbytes d55) hl)⟩
      · have c19 : Steps p.tables e below (s₁.setTop (entryFrame m #[.ref x, .ref y] 3)) (T18.setTop (mkF m 55 #[.val (.ref x), .val (.ref y), .val (.ref y)] [.int 0])) := Steps.trans g18 (by
          refine XS.ifYes X18.here hexec rfl (pc0 := 47) rfl (hb hbytes d47) rfl (i0_eq_t rfl) (by decide) rfl ?_
          refine iconstV X18.here hexec rfl 0 (hb hbytes d54) (by decide) ?_
          exact Steps.refl _)
        exact ⟨T18, some (.int 0), _, _, _, X18, rfl, rfl, rfl, (fun h => by cases h), ⟨0, rfl, q18.trans hh16, Or.inr ⟨rfl, fun q => he (iff.mpr q)⟩⟩, fun fs hl => c19.trans (X18.ireturnOut hexec hret rfl (Or.inr (Or.inl rfl)) (hb hbytes d55) hl)⟩
    · have c13 : Steps p.tables e below (s₁.setTop (entryFrame m #[.ref x, .ref y] 3)) (T11.setTop (mkF m 55 #[.val (.ref x), .val (.ref y), .val (.ref y)] [.int 0])) := c12.trans (by
        refine XS.icmpYes X11.here hexec rfl (pc0 := 33) rfl (hb hbytes d33) rfl (ii_ne_t hcd) (by decide) rfl ?_
        refine iconstV X11.here hexec rfl 0 (hb hbytes d54) (by decide) ?_
        exact Steps.refl _)
      exact ⟨T11, some (.int 0), _, _, _, X11, rfl, rfl, rfl, (fun h => by cases h), ⟨0, rfl, hh11, Or.inr ⟨rfl, Cod.dif hx.2.2.2.2.1 hy.2.2.2.2.1 hcd⟩⟩, fun fs hl => c13.trans (X11.ireturnOut hexec hret rfl (Or.inr (Or.inl rfl)) (hb hbytes d55) hl)⟩
theorem pays {l : Launch} {R : Room} {p : Program} {e : Env} {below : List Frame} {s : State} {sargs : Array Value} {len W : Nat} (x t : Addr) (V : Cell) (cd : Int32) (n : Nat) (f : Nat → Int32) (y t' : Addr) (V' : Cell) (cd' : Int32) (k : Nat) (g : Nat → Int32) (z : Int32) (htab : tab.before sargs s = true) (hfr : 2 ≤ R.frames) (hlo : W + 28 ≤ R.locals) :
    Back l R p e below s sargs yN len W (fun A₁ a₁ => A₁.cells + 0 ≤ R.cells ∧ A₁.slots + 0 ≤ R.slots ∧ P x t V cd n f y t' V' cd' k g z a₁ A₁.U) (fun A₁ _ v₁ B₁ => Says01 (SameT n f k g) v₁ A₁.U B₁.U ∧ B₁.locs = A₁.locs ++ [] ∧ B₁.cells = A₁.cells + 0 ∧ B₁.slots = A₁.slots + 0) :=
  (law l x t V cd n f y t' V' cd' k g z).pays htab hfr (by omega)
end SEq
end StrChars
namespace StrChars.Road
open Jvm Sem ClassFile Op Lib Jvm.Stand Jvm.Free Jvm.Free.XT
open Jvm.Lib.Cold (StaticIs)
/-- the words of String.equals(Object) -/
abbrev wordsEq : List Jvm.Cond := [.code SEq.yN SEq.yB 3 (some .boolean), .initialized ST, .classLink ST 10 ST, .fieldLink ST 38 ST "COMPACT_STRINGS" "Z", .fieldLink ST 15 ST "coder" "B", .fieldLink ST 9 ST "value" "[B", .methodLink ST 541 LEq.yN, .static LEq.yN, .code LEq.yN LEq.yB 3 (some .boolean), .initialized "java/lang/StringLatin1"]
theorem tabEq_of {a : Array Value} {s : State} (h : ∀ w ∈ wordsEq, w.before a s = true) : SEq.tab.before a s = true := by
  have hl : LEq.tab.before a s = true := unparts (wk h (.code LEq.yN LEq.yB 3 (some .boolean))) (wks h (.initialized LEq.yN.cls :: LEq.site))
  have q := consq hl h
  exact unparts (wk q (.code SEq.yN SEq.yB 3 (some .boolean))) (wks q (.initialized SEq.yN.cls :: SEq.site))
theorem movedEq {Z s : State} {a0 args : Array Value} (hZ : Z.Warmed39 s.vm) (hw : ∀ d ∈ wordsEq, d.before a0 Z = true) : ∀ d ∈ wordsEq, d.before args s = true := fun d hd => by
  have t : ∀ d ∈ wordsEq, (d.onTables && d.keepsFace) = true := by decide +kernel
  exact RoadKit.mv hZ (hw d hd) (t d hd)
/-- the road's facts of a String, as the laws ask it -/
theorem txt_of {Z U : State} {a0 : Array Value} {kI : Nat} (wi : (Jvm.Cond.instantiable ST kI).before a0 Z = true) (al : Z.vm.Alike U.vm) {x t : Addr} {kb : ClassId} {cs : List Int32} {cd N2 : Int32} {vs : List Value} (E : RoadKit.Exa Z U.heap x ST) (V : RoadKit.Fld Z U.heap x ST "value" "[B" (.ref t)) (C : RoadKit.Fld Z U.heap x ST "coder" "B" (.int cd)) (K : RoadKit.Arv Z U.heap t kb .byte N2 vs (.int 0)) (hc : CodA cs cd N2 vs) (hb : ∀ c ∈ cs, ¬ c < 0 ∧ ¬ (65535 : Int32) < c) (l2 : cs.length ≤ 4000) :
    ∃ A, Txt x t A cd cs.length (fun j => cs.getD j 0) U := by
  obtain ⟨A, K1, K2, K3, K4, K5, K6⟩ := K
  have hcod := hc.cod (by omega) K3 K5
  obtain ⟨D, fV, fC, hB, F1, F2, g1, g2, -, -⟩ := strObj wi al E V C
  exact ⟨A, ⟨_, hB.2.2.1, D, hB.1, rfl, by cases q : D.vm <;> first | rfl | exact absurd q (hB.2.1.2 _)⟩, Has.of hB F1 g1, Has.of hB F2 g2, ⟨K1.1, State.isArrayOf_alike al K1.2.1, K1.2.2, by rcases hcod with ⟨-, q, -⟩ | ⟨-, q, -⟩ <;> omega⟩, hcod, fun j hj => by
    have e : cs.getD j 0 = cs[j] := by simp [List.getD_eq_getElem?_getD, hj]
    show ¬ cs.getD j 0 < 0 ∧ ¬ 65535 < cs.getD j 0
    rw [e]; exact hb _ (List.getElem_mem _)⟩
theorem same_list (cs ds : List Int32) : SameT cs.length (fun j => cs.getD j 0) ds.length (fun j => ds.getD j 0) ↔ cs = ds := by
  constructor
  · rintro ⟨e, q⟩
    refine List.ext_getElem e fun j h1 h2 => ?_
    have := q j h1
    simpa [List.getD_eq_getElem?_getD, h1, h2] using this
  · rintro rfl
    exact ⟨rfl, fun _ _ => rfl⟩
/-- **equals(Object) OF TWO SUCH STRINGS**: 1 just where the chars are the same -/
theorem eqW {p : Program} {l : Launch} {e : Env} {R : Room} {s : State} {args : Array Value} {below : List Frame} {len W : Nat} {Z : State} {a0 : Array Value} {h : Heap} (hZ : Z.Warmed39 s.vm) (hw : ∀ d ∈ wordsEq, d.before a0 Z = true) {kI : Nat} (wi : (Jvm.Cond.instantiable ST kI).before a0 Z = true)
    {x t : Addr} {kb : ClassId} {cs : List Int32} {cd N2 : Int32} {vs : List Value} (E : RoadKit.Exa Z h x ST) (V : RoadKit.Fld Z h x ST "value" "[B" (.ref t)) (C : RoadKit.Fld Z h x ST "coder" "B" (.int cd)) (K : RoadKit.Arv Z h t kb .byte N2 vs (.int 0)) (hc : CodA cs cd N2 vs) (hb : ∀ c ∈ cs, ¬ c < 0 ∧ ¬ (65535 : Int32) < c) (l2 : cs.length ≤ 4000)
    {y t' : Addr} {kb' : ClassId} {ds : List Int32} {cd' N2' : Int32} {vs' : List Value} (E' : RoadKit.Exa Z h y ST) (V' : RoadKit.Fld Z h y ST "value" "[B" (.ref t')) (C' : RoadKit.Fld Z h y ST "coder" "B" (.int cd')) (K' : RoadKit.Arv Z h t' kb' .byte N2' vs' (.int 0)) (hc' : CodA ds cd' N2' vs') (hb' : ∀ c ∈ ds, ¬ c < 0 ∧ ¬ (65535 : Int32) < c) (l2' : ds.length ≤ 4000)
    {z : Int32} (S : RoadKit.Sta Z h ST "COMPACT_STRINGS" "Z" (.int z)) (hz : ¬ z = 0) (hfr : 2 ≤ R.frames) (hlo : W + 28 ≤ R.locals) :
    Back l R p e below s args (⟨"java/lang/String", "equals", "(Ljava/lang/Object;)Z"⟩ : MethodName) len W (fun P a => a = #[.ref x, .ref y] ∧ P.U.heap = h ∧ P.cells + 0 ≤ R.cells ∧ P.slots + 0 ≤ R.slots)
      (fun P _ v B => ∃ L, (((v = some (.int 1) ∧ cs = ds) ∨ (v = some (.int 0) ∧ ¬ cs = ds)) ∧ L = [] ∧ B.U.heap = h) ∧ B.locs = P.locs ++ L ∧ B.cells = P.cells + 0 ∧ B.slots = P.slots + 0) := by
  intro m meth c P g ig mk a X hg hsize hdg hW hn hp'
  obtain ⟨rfl, rfl, r1, r2⟩ := hp'
  have al : Z.vm.Alike P.U.vm := hZ.alike.trans X.warmed.alike
  obtain ⟨A, hx⟩ := txt_of wi al E V C K hc hb l2
  obtain ⟨A', hy⟩ := txt_of wi al E' V' C' K' hc' hb' l2'
  obtain ⟨v, B, X', ⟨⟨w, hv, hh, hq⟩, hl, hk, hs⟩, st⟩ := SEq.pays x t A cd cs.length (fun j => cs.getD j 0) y t' A' cd' ds.length (fun j => ds.getD j 0) z (tabEq_of (movedEq hZ hw)) hfr hlo m meth c P g ig mk _ X hg hsize hdg hW hn ⟨r1, r2, rfl, hx, hy, sta_is al S, hz⟩
  refine ⟨v, B, X', ⟨[], ⟨?_, rfl, hh⟩, hl, hk, hs⟩, st⟩
  rcases hq with ⟨rfl, q⟩ | ⟨rfl, q⟩
  · exact Or.inl ⟨hv, (same_list cs ds).mp q⟩
  · exact Or.inr ⟨hv, fun e => q ((same_list cs ds).mpr e)⟩
end StrChars.Road
namespace StrChars.Road
open Jvm Sem ClassFile Op Lib Jvm.Stand Jvm.Free Jvm.Free.XT
open Jvm.Lib.Cold (StaticIs)
/-- what backV says of its String, as the contracts of this text ask it: cs's low bytes, coder 0 -/
theorem codOf {cs : List Int32} {n : Nat} (hn : cs.length = n) (hb : ∀ c ∈ cs, ¬ 255 < c) : CodA cs 0 (Int32.ofNat n) ((cs.map lo8).map Value.int) := Or.inl ⟨rfl, by rw [hn], by simp [List.map_map, Function.comp_def], hb⟩
end StrChars.Road
end Jvm.Pilot.@@N@@

namespace Jvm.Pilot.@@N@@
open Jvm Jvm.ClassFile Sem Op Lib Jvm.Free Jvm.Stand Jvm.LawKit Jvm.RoadKit Bundle Jvm.Pilot.@@N@@.Jvm.D
theorem own_w0 : (Jvm.Cond.constant "com/example/rateloom/rateloom/repricing/RequestStatusOfLabelPinLaw" (7 : Nat) (2147483647 : Int32)) ∈ tables_1 := List.mem_of_getElem? (i := 0) rfl
theorem own_w1 : (Jvm.Cond.fieldLink "com/example/rateloom/rateloom/repricing/RequestStatusOfLabelPinLaw" (8 : Nat) "com/example/rateloom/rateloom/repricing/RequestStatus" "PENDING" "Lcom/example/rateloom/rateloom/repricing/RequestStatus;") ∈ tables_1 := List.mem_of_getElem? (i := 1) rfl
theorem own_w2 : (Jvm.Cond.initialized "com/example/rateloom/rateloom/repricing/RequestStatus") ∈ tables_1 := List.mem_of_getElem? (i := 2) rfl
theorem own_w3 : (Jvm.Cond.laysStatic "com/example/rateloom/rateloom/repricing/RequestStatus" "PENDING" "Lcom/example/rateloom/rateloom/repricing/RequestStatus;") ∈ tables_1 := List.mem_of_getElem? (i := 3) rfl
theorem own_w4 : (Jvm.Cond.arrayClass Jvm.ClassFile.FieldType.char) ∈ tables_1 := List.mem_of_getElem? (i := 4) rfl
theorem own_w5 : (Jvm.Cond.classLink "com/example/rateloom/rateloom/repricing/RequestStatusOfLabelPinLaw" (20 : Nat) "java/lang/String") ∈ tables_1 := List.mem_of_getElem? (i := 5) rfl
theorem own_w6 : (Jvm.Cond.instantiable "java/lang/String" (4 : Nat)) ∈ tables_1 := List.mem_of_getElem? (i := 6) rfl
theorem own_w7 : (Jvm.Cond.initialized "java/lang/String") ∈ tables_1 := List.mem_of_getElem? (i := 7) rfl
theorem own_w8 : (Jvm.Cond.methodLink "com/example/rateloom/rateloom/repricing/RequestStatusOfLabelPinLaw" (22 : Nat) ({ cls := "java/lang/String", name := "<init>", desc := "([C)V" } : Jvm.MethodName)) ∈ tables_1 := List.mem_of_getElem? (i := 8) rfl
theorem own_w9 : (Jvm.Cond.instanceMethod ({ cls := "java/lang/String", name := "<init>", desc := "([C)V" } : Jvm.MethodName)) ∈ tables_1 := List.mem_of_getElem? (i := 9) rfl
theorem own_w10 : (Jvm.Cond.code ({ cls := "java/lang/String", name := "<init>", desc := "([C)V" } : Jvm.MethodName) jdk_42_method_3_code (2 : Nat) (Option.none : Option Jvm.ClassFile.FieldType)) ∈ tables_1 := List.mem_of_getElem? (i := 10) rfl
theorem own_w31 : (Jvm.Cond.laysFinal "java/lang/String" "java/lang/String" "coder" "B") ∈ tables_1 := List.mem_of_getElem? (i := 31) rfl
theorem own_w33 : (Jvm.Cond.laysFinal "java/lang/String" "java/lang/String" "value" "[B") ∈ tables_1 := List.mem_of_getElem? (i := 33) rfl
theorem own_w34 : (Jvm.Cond.methodLink "com/example/rateloom/rateloom/repricing/RequestStatusOfLabelPinLaw" (25 : Nat) ({ cls := "com/example/rateloom/rateloom/repricing/RequestStatus", name := "ofLabel", desc := "(Ljava/lang/String;)Lcom/example/rateloom/rateloom/repricing/RequestStatus;" } : Jvm.MethodName)) ∈ tables_1 := List.mem_of_getElem? (i := 34) rfl
theorem own_w35 : (Jvm.Cond.static ({ cls := "com/example/rateloom/rateloom/repricing/RequestStatus", name := "ofLabel", desc := "(Ljava/lang/String;)Lcom/example/rateloom/rateloom/repricing/RequestStatus;" } : Jvm.MethodName)) ∈ tables_1 := List.mem_of_getElem? (i := 35) rfl
theorem own_w36 : (Jvm.Cond.code ({ cls := "com/example/rateloom/rateloom/repricing/RequestStatus", name := "ofLabel", desc := "(Ljava/lang/String;)Lcom/example/rateloom/rateloom/repricing/RequestStatus;" } : Jvm.MethodName) prog_49_method_4_code (5 : Nat) (Option.some (Jvm.ClassFile.FieldType.object "com/example/rateloom/rateloom/repricing/RequestStatus"))) ∈ tables_1 := List.mem_of_getElem? (i := 36) rfl
theorem own_w37 : (Jvm.Cond.methodLink "com/example/rateloom/rateloom/repricing/RequestStatus" (36 : Nat) ({ cls := "com/example/rateloom/rateloom/repricing/RequestStatus", name := "values", desc := "()[Lcom/example/rateloom/rateloom/repricing/RequestStatus;" } : Jvm.MethodName)) ∈ tables_1 := List.mem_of_getElem? (i := 37) rfl
theorem own_w38 : (Jvm.Cond.static ({ cls := "com/example/rateloom/rateloom/repricing/RequestStatus", name := "values", desc := "()[Lcom/example/rateloom/rateloom/repricing/RequestStatus;" } : Jvm.MethodName)) ∈ tables_1 := List.mem_of_getElem? (i := 38) rfl
theorem own_w39 : (Jvm.Cond.code ({ cls := "com/example/rateloom/rateloom/repricing/RequestStatus", name := "values", desc := "()[Lcom/example/rateloom/rateloom/repricing/RequestStatus;" } : Jvm.MethodName) prog_49_method_1_code (0 : Nat) (Option.some (Jvm.ClassFile.FieldType.array (Jvm.ClassFile.FieldType.object "com/example/rateloom/rateloom/repricing/RequestStatus")))) ∈ tables_1 := List.mem_of_getElem? (i := 39) rfl
theorem own_w40 : (Jvm.Cond.fieldLink "com/example/rateloom/rateloom/repricing/RequestStatus" (13 : Nat) "com/example/rateloom/rateloom/repricing/RequestStatus" "$VALUES" "[Lcom/example/rateloom/rateloom/repricing/RequestStatus;") ∈ tables_1 := List.mem_of_getElem? (i := 40) rfl
theorem own_w42 : (Jvm.Cond.methodLink "com/example/rateloom/rateloom/repricing/RequestStatus" (17 : Nat) ({ cls := "[Lcom/example/rateloom/rateloom/repricing/RequestStatus;", name := "clone", desc := "()Ljava/lang/Object;" } : Jvm.MethodName)) ∈ tables_1 := List.mem_of_getElem? (i := 42) rfl
theorem own_w43 : (Jvm.Cond.sameMethod "[Lcom/example/rateloom/rateloom/repricing/RequestStatus;" "java/lang/Object" "clone" "()Ljava/lang/Object;") ∈ tables_1 := List.mem_of_getElem? (i := 43) rfl
theorem own_w45 : (Jvm.Cond.instanceMethod ({ cls := "java/lang/Object", name := "clone", desc := "()Ljava/lang/Object;" } : Jvm.MethodName)) ∈ tables_1 := List.mem_of_getElem? (i := 45) rfl
theorem own_w46 : (Jvm.Cond.selects "[Lcom/example/rateloom/rateloom/repricing/RequestStatus;" ({ cls := "[Lcom/example/rateloom/rateloom/repricing/RequestStatus;", name := "clone", desc := "()Ljava/lang/Object;" } : Jvm.MethodName) ({ cls := "java/lang/Object", name := "clone", desc := "()Ljava/lang/Object;" } : Jvm.MethodName)) ∈ tables_1 := List.mem_of_getElem? (i := 46) rfl
theorem own_w47 : (Jvm.Cond.native ({ cls := "java/lang/Object", name := "clone", desc := "()Ljava/lang/Object;" } : Jvm.MethodName)) ∈ tables_1 := List.mem_of_getElem? (i := 47) rfl
theorem own_w48 : (Jvm.Cond.castable "[Lcom/example/rateloom/rateloom/repricing/RequestStatus;" "java/lang/Cloneable") ∈ tables_1 := List.mem_of_getElem? (i := 48) rfl
theorem own_w49 : (Jvm.Cond.laysStatic "com/example/rateloom/rateloom/repricing/RequestStatus" "COMPLETE" "Lcom/example/rateloom/rateloom/repricing/RequestStatus;") ∈ tables_1 := List.mem_of_getElem? (i := 49) rfl
theorem own_w50 : (Jvm.Cond.laysStatic "com/example/rateloom/rateloom/repricing/RequestStatus" "ERROR" "Lcom/example/rateloom/rateloom/repricing/RequestStatus;") ∈ tables_1 := List.mem_of_getElem? (i := 50) rfl
theorem own_w51 : (Jvm.Cond.initializedFor "com/example/rateloom/rateloom/repricing/RequestStatus" "$VALUES" "[Lcom/example/rateloom/rateloom/repricing/RequestStatus;") ∈ tables_1 := List.mem_of_getElem? (i := 51) rfl
theorem own_w52 : (Jvm.Cond.classLink "com/example/rateloom/rateloom/repricing/RequestStatus" (18 : Nat) "[Lcom/example/rateloom/rateloom/repricing/RequestStatus;") ∈ tables_1 := List.mem_of_getElem? (i := 52) rfl
theorem own_w54 : (Jvm.Cond.fieldLink "com/example/rateloom/rateloom/repricing/RequestStatus" (32 : Nat) "com/example/rateloom/rateloom/repricing/RequestStatus" "label" "Ljava/lang/String;") ∈ tables_1 := List.mem_of_getElem? (i := 54) rfl
theorem own_w56 : (Jvm.Cond.methodLink "com/example/rateloom/rateloom/repricing/RequestStatus" (40 : Nat) ({ cls := "java/lang/String", name := "equals", desc := "(Ljava/lang/Object;)Z" } : Jvm.MethodName)) ∈ tables_1 := List.mem_of_getElem? (i := 56) rfl
theorem own_w57 : (Jvm.Cond.declares ({ cls := "java/lang/String", name := "equals", desc := "(Ljava/lang/Object;)Z" } : Jvm.MethodName)) ∈ tables_1 := List.mem_of_getElem? (i := 57) rfl
theorem own_w58 : (Jvm.Cond.instanceMethod ({ cls := "java/lang/String", name := "equals", desc := "(Ljava/lang/Object;)Z" } : Jvm.MethodName)) ∈ tables_1 := List.mem_of_getElem? (i := 58) rfl
theorem own_w59 : (Jvm.Cond.selects "java/lang/String" ({ cls := "java/lang/String", name := "equals", desc := "(Ljava/lang/Object;)Z" } : Jvm.MethodName) ({ cls := "java/lang/String", name := "equals", desc := "(Ljava/lang/Object;)Z" } : Jvm.MethodName)) ∈ tables_1 := List.mem_of_getElem? (i := 59) rfl
theorem own_w66 : (Jvm.Cond.methodLink "com/example/rateloom/rateloom/repricing/RequestStatusOfLabelPinLaw" (29 : Nat) ({ cls := "com/example/rateloom/rateloom/repricing/RequestStatus", name := "label", desc := "()Ljava/lang/String;" } : Jvm.MethodName)) ∈ tables_1 := List.mem_of_getElem? (i := 66) rfl
theorem own_w67 : (Jvm.Cond.declares ({ cls := "com/example/rateloom/rateloom/repricing/RequestStatus", name := "label", desc := "()Ljava/lang/String;" } : Jvm.MethodName)) ∈ tables_1 := List.mem_of_getElem? (i := 67) rfl
theorem own_w68 : (Jvm.Cond.instanceMethod ({ cls := "com/example/rateloom/rateloom/repricing/RequestStatus", name := "label", desc := "()Ljava/lang/String;" } : Jvm.MethodName)) ∈ tables_1 := List.mem_of_getElem? (i := 68) rfl
theorem own_w69 : (Jvm.Cond.selects "com/example/rateloom/rateloom/repricing/RequestStatus" ({ cls := "com/example/rateloom/rateloom/repricing/RequestStatus", name := "label", desc := "()Ljava/lang/String;" } : Jvm.MethodName) ({ cls := "com/example/rateloom/rateloom/repricing/RequestStatus", name := "label", desc := "()Ljava/lang/String;" } : Jvm.MethodName)) ∈ tables_1 := List.mem_of_getElem? (i := 69) rfl
theorem own_w70 : (Jvm.Cond.code ({ cls := "com/example/rateloom/rateloom/repricing/RequestStatus", name := "label", desc := "()Ljava/lang/String;" } : Jvm.MethodName) prog_49_method_5_code (1 : Nat) (Option.some (Jvm.ClassFile.FieldType.object "java/lang/String"))) ∈ tables_1 := List.mem_of_getElem? (i := 70) rfl
theorem own_w71 : (Jvm.Cond.methodLink "com/example/rateloom/rateloom/repricing/RequestStatusOfLabelPinLaw" (33 : Nat) ({ cls := "java/lang/String", name := "equals", desc := "(Ljava/lang/Object;)Z" } : Jvm.MethodName)) ∈ tables_1 := List.mem_of_getElem? (i := 71) rfl
theorem own_w72 : (Jvm.Cond.fieldLink "com/example/rateloom/rateloom/repricing/RequestStatusOfLabelPinLaw" (17 : Nat) "com/example/rateloom/rateloom/repricing/RequestStatus" "ERROR" "Lcom/example/rateloom/rateloom/repricing/RequestStatus;") ∈ tables_1 := List.mem_of_getElem? (i := 72) rfl
theorem own_w73 : (Jvm.Cond.fieldLink "com/example/rateloom/rateloom/repricing/RequestStatusOfLabelPinLaw" (14 : Nat) "com/example/rateloom/rateloom/repricing/RequestStatus" "COMPLETE" "Lcom/example/rateloom/rateloom/repricing/RequestStatus;") ∈ tables_1 := List.mem_of_getElem? (i := 73) rfl
theorem own_d_prog_49_method_1_code_0 : decode prog_49_method_1_code 0 = .ok (.getstatic 13, 3) := by decide +kernel
theorem own_d_prog_49_method_1_code_3 : decode prog_49_method_1_code 3 = .ok (.invokevirtual 17, 3) := by decide +kernel
theorem own_d_prog_49_method_1_code_6 : decode prog_49_method_1_code 6 = .ok (.checkcast 18, 3) := by decide +kernel
theorem own_d_prog_49_method_1_code_9 : decode prog_49_method_1_code 9 = .ok (.areturn, 1) := by decide +kernel
theorem own_d_prog_49_method_5_code_0 : decode prog_49_method_5_code 0 = .ok (.aload_n 0, 1) := by decide +kernel
theorem own_d_prog_49_method_5_code_1 : decode prog_49_method_5_code 1 = .ok (.getfield 32, 3) := by decide +kernel
theorem own_d_prog_49_method_5_code_4 : decode prog_49_method_5_code 4 = .ok (.areturn, 1) := by decide +kernel
theorem own_d_prog_49_method_4_code_0 : decode prog_49_method_4_code 0 = .ok (.invokestatic 36, 3) := by decide +kernel
theorem own_d_prog_49_method_4_code_3 : decode prog_49_method_4_code 3 = .ok (.astore_n 1, 1) := by decide +kernel
theorem own_d_prog_49_method_4_code_4 : decode prog_49_method_4_code 4 = .ok (.aload_n 1, 1) := by decide +kernel
theorem own_d_prog_49_method_4_code_5 : decode prog_49_method_4_code 5 = .ok (.arraylength, 1) := by decide +kernel
theorem own_d_prog_49_method_4_code_6 : decode prog_49_method_4_code 6 = .ok (.istore_n 2, 1) := by decide +kernel
theorem own_d_prog_49_method_4_code_7 : decode prog_49_method_4_code 7 = .ok (.iconst 0, 1) := by decide +kernel
theorem own_d_prog_49_method_4_code_8 : decode prog_49_method_4_code 8 = .ok (.istore_n 3, 1) := by decide +kernel
theorem own_d_prog_49_method_4_code_9 : decode prog_49_method_4_code 9 = .ok (.iload_n 3, 1) := by decide +kernel
theorem own_d_prog_49_method_4_code_10 : decode prog_49_method_4_code 10 = .ok (.iload_n 2, 1) := by decide +kernel
theorem own_d_prog_49_method_4_code_11 : decode prog_49_method_4_code 11 = .ok (.if_icmp .ge 29, 3) := by decide +kernel
theorem own_d_prog_49_method_4_code_14 : decode prog_49_method_4_code 14 = .ok (.aload_n 1, 1) := by decide +kernel
theorem own_d_prog_49_method_4_code_15 : decode prog_49_method_4_code 15 = .ok (.iload_n 3, 1) := by decide +kernel
theorem own_d_prog_49_method_4_code_16 : decode prog_49_method_4_code 16 = .ok (.aaload, 1) := by decide +kernel
theorem own_d_prog_49_method_4_code_17 : decode prog_49_method_4_code 17 = .ok (.astore 4, 2) := by decide +kernel
theorem own_d_prog_49_method_4_code_19 : decode prog_49_method_4_code 19 = .ok (.aload 4, 2) := by decide +kernel
theorem own_d_prog_49_method_4_code_21 : decode prog_49_method_4_code 21 = .ok (.getfield 32, 3) := by decide +kernel
theorem own_d_prog_49_method_4_code_24 : decode prog_49_method_4_code 24 = .ok (.aload_n 0, 1) := by decide +kernel
theorem own_d_prog_49_method_4_code_25 : decode prog_49_method_4_code 25 = .ok (.invokevirtual 40, 3) := by decide +kernel
theorem own_d_prog_49_method_4_code_28 : decode prog_49_method_4_code 28 = .ok (.ifCond .eq 6, 3) := by decide +kernel
theorem own_d_prog_49_method_4_code_31 : decode prog_49_method_4_code 31 = .ok (.aload 4, 2) := by decide +kernel
theorem own_d_prog_49_method_4_code_33 : decode prog_49_method_4_code 33 = .ok (.areturn, 1) := by decide +kernel
theorem own_d_prog_49_method_4_code_34 : decode prog_49_method_4_code 34 = .ok (.iinc 3 1, 3) := by decide +kernel
theorem own_d_prog_49_method_4_code_37 : decode prog_49_method_4_code 37 = .ok (.goto (-28), 3) := by decide +kernel
theorem own_pd0 : parseMethodDescriptor "()[Lcom/example/rateloom/rateloom/repricing/RequestStatus;" = some ⟨[], some (.array (.object "com/example/rateloom/rateloom/repricing/RequestStatus"))⟩ := by decide +kernel
theorem own_pd1 : parseMethodDescriptor "(Ljava/lang/Object;)Z" = some ⟨[(.object "java/lang/Object")], some .boolean⟩ := by decide +kernel
theorem own_pd2 : parseMethodDescriptor "([C)V" = some ⟨[(.array .char)], none⟩ := by decide +kernel
theorem own_pd3 : parseMethodDescriptor "(Ljava/lang/String;)Lcom/example/rateloom/rateloom/repricing/RequestStatus;" = some ⟨[(.object "java/lang/String")], some (.object "com/example/rateloom/rateloom/repricing/RequestStatus")⟩ := by decide +kernel
theorem own_pd4 : parseMethodDescriptor "()Ljava/lang/String;" = some ⟨[], some (.object "java/lang/String")⟩ := by decide +kernel
theorem own_pn0 : plainName "com/example/rateloom/rateloom/repricing/RequestStatus" = true := by first | (simp [plainName, overriddenIn]; done) | decide +kernel
theorem own_pn1 : plainName "com/example/rateloom/rateloom/repricing/RequestStatusOfLabelPinLaw" = true := by first | (simp [plainName, overriddenIn]; done) | decide +kernel
section OwnKit
variable {p : Program} {l : Launch} {e : Env} {R : Room} {s : State} {m : MethodId} {args : Array Value} {below : List Frame} {meth : Method} {c : Code} {T : State} {locs : List Loc} {cells slots : Nat} {Z : State} {h h1 h2 : Heap}
def own_Fin (p : Program) (e : Env) (below : List Frame) (S : State) (P : State → Outcome → Prop) : Prop := ∃ U o, Steps p.tables e below S U ∧ U.status = .running ∧ Ended U below o ∧ P U o
theorem own_st {S S' : State} {P : State → Outcome → Prop} (st : ∀ t, Steps p.tables e below S' t → Steps p.tables e below S t) (k : own_Fin p e below S' P) : own_Fin p e below S P := by
  obtain ⟨U, o, q, r⟩ := k; exact ⟨U, o, st _ q, r⟩
theorem own_tr {S S' : State} {P : State → Outcome → Prop} (st : Steps p.tables e below S S') (k : own_Fin p e below S' P) : own_Fin p e below S P := by
  obtain ⟨U, o, q, r⟩ := k; exact ⟨U, o, st.trans q, r⟩
def own_End (s : State) (Q : Option Value → Heap → List Loc → Prop) (k n : Nat) (U : State) (o : Outcome) : Prop := ∃ v L, o = .returned v ∧ Q v U.heap L ∧ FrameEnd s o U L k n
theorem own_ret (X : Stand p l e R s m args below meth c T locs cells slots) (hx : p.tables.exec = Jvm.exec) {pc : Nat} {Ls : Array Slot} {w : Value} {t : FieldType} {i : Instr} {rest : List Value} (hret : meth.sig.returnType = some t) (hlk : meth.locks = false) (hn : narrow t w = w)
    (hi : (i = .ireturn ∧ (t = .int ∨ t = .boolean ∨ t = .byte ∨ t = .char ∨ t = .short) ∧ ∃ z, w = .int z) ∨ (i = .lreturn ∧ t = .long ∧ ∃ z, w = .long z) ∨ (i = .dreturn ∧ t = .double ∧ ∃ z, w = .double z) ∨ (i = .freturn ∧ t = .float ∧ ∃ z, w = .float z) ∨ (i = .areturn ∧ t.isReference = true ∧ w.isRef = true))
    (hd : decode c.code pc = .ok (i, 1)) {Q : Option Value → Heap → List Loc → Prop} {k n : Nat} (hk : cells ≤ k) (hs : slots ≤ n) (hq : Q (some w) T.heap locs) : own_Fin p e below (T.setTop (mkF m pc Ls (w :: rest))) (own_End s Q k n) := by
  obtain ⟨fs, hr, hrun, hended, hW, hsame⟩ := X.leave (v := some w) (fun q => by rw [hret] at q; cases q) hlk
  exact ⟨_, _, retOut X hx hret hn hi hd hr, hrun, hended, _, _, rfl, hq, ⟨_, rfl⟩, hW, hsame.mono hk hs⟩
theorem own_ret0 (X : Stand p l e R s m args below meth c T locs cells slots) (hx : p.tables.exec = Jvm.exec) {pc : Nat} {Ls : Array Slot} (hret : meth.sig.returnType = none) (hlk : meth.locks = false)
    (hd : decode c.code pc = .ok (.return_, 1)) {Q : Option Value → Heap → List Loc → Prop} {k n : Nat} (hk : cells ≤ k) (hs : slots ≤ n) (hq : Q none T.heap locs) : own_Fin p e below (T.setTop (mkF m pc Ls [])) (own_End s Q k n) := by
  obtain ⟨fs, hr, hrun, hended, hW, hsame⟩ := X.leave (v := none) (fun _ => rfl) hlk
  exact ⟨_, _, X.returnOut hx hret hd hr, hrun, hended, _, _, rfl, hq, ⟨_, rfl⟩, hW, hsame.mono hk hs⟩
def own_EndW (s : State) (Q : Option Value → Heap → Vm → List Loc → Prop) (k n : Nat) (U : State) (o : Outcome) : Prop := ∃ v L, o = .returned v ∧ Q v U.heap U.vm L ∧ ReturnedEndW s o U L k n
theorem own_xr (h : Heap) : Ext h h := ⟨Nat.le_refl _, fun _ _ q => q⟩
theorem own_xt (E : Ext h h1) (F : Ext h1 h2) : Ext h h2 := ⟨Nat.le_trans E.1 F.1, fun a c q => F.2 a c (E.2 a c q)⟩
theorem own_xw {a : Addr} {sl : Nat} {v : Value} (E : Ext h h1) (W : Wr h1 h2 a sl v) (q : h.size ≤ a) : Ext h h2 :=
  ⟨Nat.le_trans E.1 (Nat.le_of_eq W.size.symm), fun b c hb => by
    obtain ⟨c', e1, -, -, -, e5, -⟩ := wr_at W (E.2 b c hb)
    have ne : b ≠ a := Nat.ne_of_lt (Nat.lt_of_lt_of_le (Array.getElem?_eq_some_iff.mp hb).1 q)
    rw [← e5 ne]; exact e1⟩
theorem own_xk {ws : List Addr} (E : Ext h h1) (K : Keep h1 h2 ws) (q : ∀ x ∈ ws, h.size ≤ x) : Ext h h2 :=
  ⟨Nat.le_trans E.1 K.1, fun b c hb => K.2.1 b c (E.2 b c hb) fun z => absurd (Array.getElem?_eq_some_iff.mp hb).1 (Nat.not_lt.mpr (q b z))⟩
theorem own_kx (E : Ext h h1) (ws : List Addr) : Keep h h1 ws := ⟨E.1, fun a c q _ => E.2 a c q, fun a c q => ⟨c, E.2 a c q, rfl, rfl, rfl⟩⟩
theorem own_slot {v w : Value} (q : v = w) : Slot.val v = Slot.val w := by rw [q]
end OwnKit

section OwnStr
variable {p : Program} {l : Launch} {e : Env} {R : Room} {s : State} {args : Array Value} {below : List Frame} {len W : Nat} {Z : State} {a0 : Array Value} {h h' : Heap} {x y : Addr} {cs ds : List Int32} {z : Int32}
def own_Str (Z : State) (h : Heap) (x : Addr) (cs : List Int32) : Prop := ∃ (t : Addr) (kb : ClassId) (cd N : Int32) (vs : List Value), Exa Z h x "java/lang/String" ∧ Fld Z h x "java/lang/String" "value" "[B" (.ref t) ∧ Fld Z h x "java/lang/String" "coder" "B" (.int cd) ∧ Arv Z h t kb .byte N vs (.int 0) ∧ StrChars.Road.CodA cs cd N vs ∧ (∀ c ∈ cs, ¬ c < 0 ∧ ¬ (65535 : Int32) < c) ∧ cs.length ≤ 4000
theorem own_Str.ext (F : own_Str Z h x cs) (E : Ext h h') : own_Str Z h' x cs := by
  obtain ⟨t, kb, cd, N, vs, q1, q2, q3, q4, r⟩ := F; exact ⟨t, kb, cd, N, vs, q1.ext E, q2.ext E, q3.ext E, q4.ext E, r⟩
theorem own_Str.exa (F : own_Str Z h x cs) : Exa Z h x "java/lang/String" := by obtain ⟨t, kb, cd, N, vs, q1, -⟩ := F; exact q1
theorem own_Str.lt (F : own_Str Z h x cs) : x < h.size := F.exa.lt


theorem own_newB (hZ : Z.Warmed39 s.vm) (hw : ∀ d ∈ tables_1, d.before a0 Z = true) {b : Addr} {kC : ClassId} {d v0 c0 : Value} {N : Int32} {n n0 : Nat} (hx0 : n0 ≤ x) (hh0 : n0 ≤ h.size) (E : Exa Z h x "java/lang/String") (V : Fld Z h x "java/lang/String" "value" "[B" v0) (C : Fld Z h x "java/lang/String" "coder" "B" c0) (K : Arv Z h b kC .char N (cs.map Value.int) d) (S : Sta Z h "java/lang/String" "COMPACT_STRINGS" "Z" (.int z)) (hz : ¬ z = 0)
    (hn : cs.length = n) (hN : N = Int32.ofNat n) (l0 : 0 < n) (l2 : n ≤ 4000) (hp : ∀ c ∈ cs, ¬ c < 0 ∧ ¬ (255 : Int32) < c) (hfr : 4 ≤ R.frames) (hlo : W + 65 ≤ R.locals) :
    Back l R p e below s args (⟨"java/lang/String", "<init>", "([C)V"⟩ : MethodName) len W (fun P a => a = #[.ref x, .ref b] ∧ P.U.heap = h ∧ P.cells + 1 ≤ R.cells ∧ P.slots + n ≤ R.slots)
      (fun P _ v B => ∃ L, (v = none ∧ Fr n0 L ∧ Keep h B.U.heap [x] ∧ own_Str Z B.U.heap x cs) ∧ B.locs = P.locs ++ L ∧ B.cells = P.cells + 1 ∧ B.slots = P.slots + n) := by
  intro m meth c A g ig mk a X hg hsize hdg hW hnm hpre
  obtain ⟨v, B, X', ⟨L, ⟨q1, q2, q3, q4, q5, t, kb, q6, q7, q8, q9, q10⟩, r⟩, hst⟩ := StrChars.Road.backV hZ (fun d hd => hw d ((by decide +kernel : ∀ d ∈ StrChars.Road.words, d ∈ tables_1) d hd)) (hw _ own_w6) hx0 hh0 E V C K S hz hn hN l0 l2 hp rfl hfr hlo m meth c A g ig mk a X hg hsize hdg hW hnm hpre
  subst hN
  exact ⟨v, B, X', ⟨L, ⟨q1, q2, q3, t, kb, 0, _, _, q4, q9, q5, q10, StrChars.Road.codOf hn (fun c hc => (hp c hc).2), fun c hc => ⟨(hp c hc).1, fun q => (hp c hc).2 (Int32.lt_trans (by decide) q)⟩, by omega⟩, r⟩, hst⟩


theorem own_eqB (hZ : Z.Warmed39 s.vm) (hw : ∀ d ∈ tables_1, d.before a0 Z = true) (A : own_Str Z h x cs) (B : own_Str Z h y ds) (S : Sta Z h "java/lang/String" "COMPACT_STRINGS" "Z" (.int z)) (hz : ¬ z = 0) (hfr : 2 ≤ R.frames) (hlo : W + 28 ≤ R.locals) :
    Back l R p e below s args (⟨"java/lang/String", "equals", "(Ljava/lang/Object;)Z"⟩ : MethodName) len W (fun P a => a = #[.ref x, .ref y] ∧ P.U.heap = h ∧ P.cells + 0 ≤ R.cells ∧ P.slots + 0 ≤ R.slots)
      (fun P _ v B => ∃ L, (((v = some (.int 1) ∧ cs = ds) ∨ (v = some (.int 0) ∧ ¬ cs = ds)) ∧ L = [] ∧ B.U.heap = h) ∧ B.locs = P.locs ++ L ∧ B.cells = P.cells + 0 ∧ B.slots = P.slots + 0) := by
  obtain ⟨t, kb, cd, N, vs, q1, q2, q3, q4, q5, q6, q7⟩ := A
  obtain ⟨t', kb', cd', N', vs', r1, r2, r3, r4, r5, r6, r7⟩ := B
  exact StrChars.Road.eqW hZ (fun d hd => hw d ((by decide +kernel : ∀ d ∈ StrChars.Road.wordsEq, d ∈ tables_1) d hd)) (hw _ own_w6) q1 q2 q3 q4 q5 q6 q7 r1 r2 r3 r4 r5 r6 r7 S hz hfr hlo

end OwnStr
theorem own_pickY {v : Option Value} {P : Prop} (h : (v = some (.int 1) ∧ P) ∨ (v = some (.int 0) ∧ ¬ P)) (q : P) : v = some (.int 1) ∧ True := ⟨h.elim (fun r => r.1) fun r => absurd q r.2, trivial⟩
theorem own_pickN {v : Option Value} {P : Prop} (h : (v = some (.int 1) ∧ P) ∨ (v = some (.int 0) ∧ ¬ P)) (q : ¬ P) : v = some (.int 0) ∧ True := ⟨h.elim (fun r => absurd r.2 q) fun r => r.1, trivial⟩

def own_csP : List Int32 := ([80, 101, 110, 100, 105, 110, 103] : List Int32)
def own_csC : List Int32 := ([67, 111, 109, 112, 108, 101, 116, 101] : List Int32)
def own_csE : List Int32 := ([69, 114, 114, 111, 114] : List Int32)
def own_Sta (Z : State) (aP aC aE aV lP lC lE : Addr) (kV : ClassId) : Prop := Sta Z Z.heap "com/example/rateloom/rateloom/repricing/RequestStatus" "$VALUES" "[Lcom/example/rateloom/rateloom/repricing/RequestStatus;" (.ref aV) ∧ Exa Z Z.heap aV "[Lcom/example/rateloom/rateloom/repricing/RequestStatus;" ∧ Arv Z Z.heap aV kV (.object "com/example/rateloom/rateloom/repricing/RequestStatus") (3 : Int32) [.ref aP, .ref aC, .ref aE] .null ∧
  Fld Z Z.heap aP "com/example/rateloom/rateloom/repricing/RequestStatus" "label" "Ljava/lang/String;" (.ref lP) ∧ Fld Z Z.heap aC "com/example/rateloom/rateloom/repricing/RequestStatus" "label" "Ljava/lang/String;" (.ref lC) ∧ Fld Z Z.heap aE "com/example/rateloom/rateloom/repricing/RequestStatus" "label" "Ljava/lang/String;" (.ref lE) ∧ own_Str Z Z.heap lP own_csP ∧ own_Str Z Z.heap lC own_csC ∧ own_Str Z Z.heap lE own_csE ∧
  Sta Z Z.heap "com/example/rateloom/rateloom/repricing/RequestStatus" "PENDING" "Lcom/example/rateloom/rateloom/repricing/RequestStatus;" (.ref aP) ∧ Sta Z Z.heap "com/example/rateloom/rateloom/repricing/RequestStatus" "COMPLETE" "Lcom/example/rateloom/rateloom/repricing/RequestStatus;" (.ref aC) ∧ Sta Z Z.heap "com/example/rateloom/rateloom/repricing/RequestStatus" "ERROR" "Lcom/example/rateloom/rateloom/repricing/RequestStatus;" (.ref aE) ∧ Exa Z Z.heap aP "com/example/rateloom/rateloom/repricing/RequestStatus" ∧ Exa Z Z.heap aC "com/example/rateloom/rateloom/repricing/RequestStatus" ∧ Exa Z Z.heap aE "com/example/rateloom/rateloom/repricing/RequestStatus"
theorem own_hpP : ∀ c ∈ own_csP, ¬ c < 0 ∧ ¬ (255 : Int32) < c := by decide
theorem own_hpC : ∀ c ∈ own_csC, ¬ c < 0 ∧ ¬ (255 : Int32) < c := by decide
theorem own_hpE : ∀ c ∈ own_csE, ¬ c < 0 ∧ ¬ (255 : Int32) < c := by decide
def own_Q_val (Z : State) (aP aC aE : Addr) (kV : ClassId) (h0 : Heap) (n0 : Nat) (v : Option Value) (h : Heap) (L : List Loc) : Prop := ∃ r, v = some (.ref r) ∧ Fr n0 L ∧ Ext h0 h ∧ h0.size ≤ r ∧ Arv Z h r kV (.object "com/example/rateloom/rateloom/repricing/RequestStatus") (3 : Int32) [.ref aP, .ref aC, .ref aE] .null
theorem own_ef_val (m : MethodId) : entryFrame m #[] 0 = mkF m 0 #[] [] := by first | (simp [entryFrame, mkF, argsToLocals, Value.category, maxLocals]; done) | rfl
set_option maxRecDepth 65536 in
set_option maxHeartbeats 40000000 in
theorem own_rm_val (l : Launch) (Z : State) (a0 : Array Value) (hw : ∀ d ∈ tables_1, d.before a0 Z = true) (G1 : Int32) (S1 : Sta Z Z.heap "java/lang/String" "COMPACT_STRINGS" "Z" (.int G1)) (P1 : ¬ G1 = 0) (aP aC aE aV lP lC lE : Addr) (kV : ClassId) (B : own_Sta Z aP aC aE aV lP lC lE kV) (ws : List Jvm.Cond) (h0 : Heap) (n0 : Nat) (Z0 : n0 ≤ h0.size) (XO : Old Z n0 h0) :
    MetFree l (⟨"com/example/rateloom/rateloom/repricing/RequestStatus", "values", "()[Lcom/example/rateloom/rateloom/repricing/RequestStatus;"⟩ : MethodName) (head1 (Jvm.Cond.code (⟨"com/example/rateloom/rateloom/repricing/RequestStatus", "values", "()[Lcom/example/rateloom/rateloom/repricing/RequestStatus;"⟩ : MethodName) prog_49_method_1_code 0 (some (.array (.object "com/example/rateloom/rateloom/repricing/RequestStatus"))) :: ws) ({ frames := 1, cells := 1, slots := 3, locals := 14 } : Room)) (fun a U => a = #[] ∧ Z.Warmed39 U.vm ∧ U.heap = h0) (fun _ _ _ _ _ => True) (fun _ U o U' => ∃ v L, o = .returned v ∧ (own_Q_val Z aP aC aE kV h0 n0) v U'.heap L ∧ FrameEnd U o U' L ({ frames := 1, cells := 1, slots := 3, locals := 14 } : Room).cells ({ frames := 1, cells := 1, slots := 3, locals := 14 } : Room).slots) := by
  refine MetFree.of_bodySF (plainFor_of_name own_pn0) hisR ?_
  intro p e s m args below meth c s₁ Bd hml0 hP hK
  obtain ⟨rfl, hZ, hh⟩ := hP
  have hx := Bd.exec
  have hby := Bd.bytes
  have hlk : meth.locks = false := BodyLoose.notSynchronized Bd
  have hml : c.maxLocals = 0 := hml0
  have hown : s.vm.findClass "com/example/rateloom/rateloom/repricing/RequestStatus" = some m.cls := findClass_of_methodNamed Bd.named
  have hnm := (name_of_methodNamed Bd.named Bd.method).1
  have X0 : Stand p l e ({ frames := 1, cells := 1, slots := 3, locals := 14 } : Room) s m #[] below meth c s₁ [] 0 0 := Stand.of_body Bd
  have e0 : s₁.heap = h0 := by rw [← hh, Bd.state]; rfl
  have N0 := Fr.nil n0
  show own_Fin p e below (s₁.setTop (entryFrame m #[] 0)) (own_End s ((own_Q_val Z aP aC aE kV h0 n0)) ({ frames := 1, cells := 1, slots := 3, locals := 14 } : Room).cells ({ frames := 1, cells := 1, slots := 3, locals := 14 } : Room).slots)
  refine own_st (S' := s₁.setTop (mkF m 0 #[] [])) (fun _ k => castTop (own_ef_val m) k) ?_
  obtain ⟨B1, B2, B3, B4, B5, B6, B7, B8, B9, B10, B11, B12, B13, B14, B15⟩ := id B
  have S1 : Sta Z h0 "com/example/rateloom/rateloom/repricing/RequestStatus" "$VALUES" "[Lcom/example/rateloom/rateloom/repricing/RequestStatus;" (.ref aV) := (B1.ext XO.2)
  obtain ⟨T2, X2, e2, st2⟩ := getS2 X0 hx hZ hown (host := "") (Or.inl (hw _ own_w40)) Via.refl e0 S1 (g := (mkF m 0 #[] [])) rfl (hb hby own_d_prog_49_method_1_code_0)
  refine own_st (S' := T2.setTop (mkF m 3 #[] [(.ref aV)])) st2 ?_
  have V4 : Arv Z h0 aV kV (.object "com/example/rateloom/rateloom/repricing/RequestStatus") (3 : Int32) [(.ref aP), (.ref aC), (.ref aE)] .null := (B3.ext XO.2)
  have A5 : Exa Z h0 aV "[Lcom/example/rateloom/rateloom/repricing/RequestStatus;" := (B2.ext XO.2)
  obtain ⟨T3, h3, X3, e3, E3, V3, A3, st3⟩ := cloneH X2 hx hZ hown (hw _ own_w42) (hw _ own_w43) (hw _ own_w47) (hw _ own_w45) (hw _ own_w46) (hw _ own_w48) e2 (Arv.arh V4) A5 (g := (mkF m 3 #[] [(.ref aV)])) rfl (by rw [hml]; rfl) rfl (hb hby own_d_prog_49_method_1_code_3) (by decide) (W := 0) (cap := 3) (by show 2 * 0 + _ ≤ _; exact Nat.le_of_eq rfl) (by decide) (by decide) (by decide) (by decide)
  obtain ⟨b3, g3⟩ : ∃ z, z = h0.size := ⟨_, rfl⟩
  rw [← g3] at V3 A3 st3
  have U3 : Arv Z h3 b3 kV (.object "com/example/rateloom/rateloom/repricing/RequestStatus") (3 : Int32) [(.ref aP), (.ref aC), (.ref aE)] .null := V3
  refine own_st (S' := T3.setTop (mkF m 6 #[] [(.ref b3)])) st3 ?_
  obtain ⟨T6, X6, e6, st6⟩ := castY X3 hx hZ hown (hw _ own_w52) e3 (Ins.self A3) (g := (mkF m 6 #[] [(.ref b3)])) rfl rfl (hb hby own_d_prog_49_method_1_code_6)
  refine own_st (S' := T6.setTop (mkF m 9 #[] [(.ref b3)])) st6 ?_
  refine own_ret X6 hx Bd.returns hlk rfl (Or.inr (Or.inr (Or.inr (Or.inr ⟨rfl, rfl, rfl⟩)))) (hb hby own_d_prog_49_method_1_code_9) (by decide) (by decide) ?_
  rw [e6]
  exact ⟨b3, rfl, N0, E3, (Nat.le_of_eq g3.symm), U3⟩
def own_Q_lab (Z : State) (l1 : Addr) (h0 : Heap) (n0 : Nat) (v : Option Value) (h : Heap) (L : List Loc) : Prop := v = some (.ref l1) ∧ Fr n0 L ∧ h = h0
theorem own_ef_lab (m : MethodId) (a1 : Addr) : entryFrame m #[(.ref a1)] 1 = mkF m 0 #[.val (.ref a1)] [] := by first | (simp [entryFrame, mkF, argsToLocals, Value.category, maxLocals]; done) | rfl
set_option maxRecDepth 65536 in
set_option maxHeartbeats 40000000 in
theorem own_rm_lab (l : Launch) (Z : State) (a0 : Array Value) (hw : ∀ d ∈ tables_1, d.before a0 Z = true) (G1 : Int32) (S1 : Sta Z Z.heap "java/lang/String" "COMPACT_STRINGS" "Z" (.int G1)) (P1 : ¬ G1 = 0) (aP aC aE aV lP lC lE : Addr) (kV : ClassId) (B : own_Sta Z aP aC aE aV lP lC lE kV) (ws : List Jvm.Cond) (a1 l1 : Addr) (h0 : Heap) (n0 : Nat) (Z0 : n0 ≤ h0.size) (XO : Old Z n0 h0) (F1 : Fld Z Z.heap a1 "com/example/rateloom/rateloom/repricing/RequestStatus" "label" "Ljava/lang/String;" (.ref l1)) :
    MetFree l (⟨"com/example/rateloom/rateloom/repricing/RequestStatus", "label", "()Ljava/lang/String;"⟩ : MethodName) (head1 (Jvm.Cond.code (⟨"com/example/rateloom/rateloom/repricing/RequestStatus", "label", "()Ljava/lang/String;"⟩ : MethodName) prog_49_method_5_code 1 (some (.object "java/lang/String")) :: ws) ({ frames := 0, cells := 0, slots := 0, locals := 0 } : Room)) (fun a U => a = #[(.ref a1)] ∧ Z.Warmed39 U.vm ∧ U.heap = h0) (fun _ _ _ _ _ => True) (fun _ U o U' => ∃ v L, o = .returned v ∧ (own_Q_lab Z l1 h0 n0) v U'.heap L ∧ FrameEnd U o U' L ({ frames := 0, cells := 0, slots := 0, locals := 0 } : Room).cells ({ frames := 0, cells := 0, slots := 0, locals := 0 } : Room).slots) := by
  refine MetFree.of_bodySF (plainFor_of_name own_pn0) hisR ?_
  intro p e s m args below meth c s₁ Bd hml0 hP hK
  obtain ⟨rfl, hZ, hh⟩ := hP
  have hx := Bd.exec
  have hby := Bd.bytes
  have hlk : meth.locks = false := BodyLoose.notSynchronized Bd
  have hml : c.maxLocals = 1 := hml0
  have hown : s.vm.findClass "com/example/rateloom/rateloom/repricing/RequestStatus" = some m.cls := findClass_of_methodNamed Bd.named
  have hnm := (name_of_methodNamed Bd.named Bd.method).1
  have X0 : Stand p l e ({ frames := 0, cells := 0, slots := 0, locals := 0 } : Room) s m #[(.ref a1)] below meth c s₁ [] 0 0 := Stand.of_body Bd
  have e0 : s₁.heap = h0 := by rw [← hh, Bd.state]; rfl
  have N0 := Fr.nil n0
  show own_Fin p e below (s₁.setTop (entryFrame m #[(.ref a1)] 1)) (own_End s ((own_Q_lab Z l1 h0 n0)) ({ frames := 0, cells := 0, slots := 0, locals := 0 } : Room).cells ({ frames := 0, cells := 0, slots := 0, locals := 0 } : Room).slots)
  refine own_st (S' := s₁.setTop (mkF m 0 #[.val (.ref a1)] [])) (fun _ k => castTop (own_ef_lab m a1) k) ?_
  refine own_st (S' := s₁.setTop (mkF m 1 #[.val (.ref a1)] [(.ref a1)])) (fun _ k => XS.aloadN X0.here hx rfl (hb hby own_d_prog_49_method_5_code_0) rfl rfl k) ?_
  have F1 : Fld Z h0 a1 "com/example/rateloom/rateloom/repricing/RequestStatus" "label" "Ljava/lang/String;" (.ref l1) := (F1.ext XO.2)
  obtain ⟨T2, X2, e2, st2⟩ := getF X0 hx hZ hown (host := "") (Or.inl (hw _ own_w54)) Via.refl e0 F1 (g := (mkF m 1 #[.val (.ref a1)] [(.ref a1)])) rfl rfl (hb hby own_d_prog_49_method_5_code_1)
  refine own_st (S' := T2.setTop (mkF m 4 #[.val (.ref a1)] [(.ref l1)])) st2 ?_
  refine own_ret X2 hx Bd.returns hlk rfl (Or.inr (Or.inr (Or.inr (Or.inr ⟨rfl, rfl, rfl⟩)))) (hb hby own_d_prog_49_method_5_code_4) (by decide) (by decide) ?_
  rw [e2]
  exact ⟨rfl, N0, rfl⟩
def own_Q_of (Z : State) (aP aC aE : Addr) (cs : List Int32) (h0 : Heap) (n0 : Nat) (v : Option Value) (h : Heap) (L : List Loc) : Prop := ∃ r, v = some (.ref r) ∧ Fr n0 L ∧ Ext h0 h ∧ ((cs = own_csP ∧ r = aP) ∨ (cs = own_csC ∧ r = aC) ∨ (cs = own_csE ∧ r = aE))
theorem own_ef_of (m : MethodId) (x1 : Addr) : entryFrame m #[(.ref x1)] 5 = mkF m 0 #[.val (.ref x1), .unset, .unset, .unset, .unset] [] := by first | (simp [entryFrame, mkF, argsToLocals, Value.category, maxLocals]; done) | rfl
set_option maxRecDepth 65536 in
set_option maxHeartbeats 40000000 in
theorem own_rm_of (l : Launch) (Z : State) (a0 : Array Value) (hw : ∀ d ∈ tables_1, d.before a0 Z = true) (G1 : Int32) (S1 : Sta Z Z.heap "java/lang/String" "COMPACT_STRINGS" "Z" (.int G1)) (P1 : ¬ G1 = 0) (aP aC aE aV lP lC lE : Addr) (kV : ClassId) (B : own_Sta Z aP aC aE aV lP lC lE kV) (ws : List Jvm.Cond) (x1 : Addr) (cs : List Int32) (h0 : Heap) (n0 : Nat) (Z0 : n0 ≤ h0.size) (XO : Old Z n0 h0) (F1 : own_Str Z h0 x1 cs) (hcs : cs = own_csP ∨ cs = own_csC ∨ cs = own_csE) :
    MetFree l (⟨"com/example/rateloom/rateloom/repricing/RequestStatus", "ofLabel", "(Ljava/lang/String;)Lcom/example/rateloom/rateloom/repricing/RequestStatus;"⟩ : MethodName) (head1 (Jvm.Cond.code (⟨"com/example/rateloom/rateloom/repricing/RequestStatus", "ofLabel", "(Ljava/lang/String;)Lcom/example/rateloom/rateloom/repricing/RequestStatus;"⟩ : MethodName) prog_49_method_4_code 5 (some (.object "com/example/rateloom/rateloom/repricing/RequestStatus")) :: ws) ({ frames := 2, cells := 1, slots := 3, locals := 28 } : Room)) (fun a U => a = #[(.ref x1)] ∧ Z.Warmed39 U.vm ∧ U.heap = h0) (fun _ _ _ _ _ => True) (fun _ U o U' => ∃ v L, o = .returned v ∧ (own_Q_of Z aP aC aE cs h0 n0) v U'.heap L ∧ FrameEnd U o U' L ({ frames := 2, cells := 1, slots := 3, locals := 28 } : Room).cells ({ frames := 2, cells := 1, slots := 3, locals := 28 } : Room).slots) := by
  refine MetFree.of_bodySF (plainFor_of_name own_pn0) hisR ?_
  intro p e s m args below meth c s₁ Bd hml0 hP hK
  obtain ⟨rfl, hZ, hh⟩ := hP
  have hx := Bd.exec
  have hby := Bd.bytes
  have hlk : meth.locks = false := BodyLoose.notSynchronized Bd
  have hml : c.maxLocals = 5 := hml0
  have hown : s.vm.findClass "com/example/rateloom/rateloom/repricing/RequestStatus" = some m.cls := findClass_of_methodNamed Bd.named
  have hnm := (name_of_methodNamed Bd.named Bd.method).1
  have X0 : Stand p l e ({ frames := 2, cells := 1, slots := 3, locals := 28 } : Room) s m #[(.ref x1)] below meth c s₁ [] 0 0 := Stand.of_body Bd
  have e0 : s₁.heap = h0 := by rw [← hh, Bd.state]; rfl
  have N0 := Fr.nil n0
  show own_Fin p e below (s₁.setTop (entryFrame m #[(.ref x1)] 5)) (own_End s ((own_Q_of Z aP aC aE cs h0 n0)) ({ frames := 2, cells := 1, slots := 3, locals := 28 } : Room).cells ({ frames := 2, cells := 1, slots := 3, locals := 28 } : Room).slots)
  refine own_st (S' := s₁.setTop (mkF m 0 #[.val (.ref x1), .unset, .unset, .unset, .unset] [])) (fun _ k => castTop (own_ef_of m x1) k) ?_
  obtain ⟨B1, B2, B3, B4, B5, B6, B7, B8, B9, B10, B11, B12, B13, B14, B15⟩ := id B
  obtain ⟨_, _, ⟨T1, L1, k1, n1⟩, -, X1, ⟨Lc1, hQ1, l1, y1, z1⟩, st1⟩ := Jvm.LawKit.callS X0 hx (y := (⟨"com/example/rateloom/rateloom/repricing/RequestStatus", "values", "()[Lcom/example/rateloom/rateloom/repricing/RequestStatus;"⟩ : MethodName)) hown (mvT hZ (hw _ own_w37)) (mvT hZ (hw _ own_w38)) (mvT hZ (hw _ own_w2)) (mvT hZ (hw _ own_w39)) (by decide) (backOf (W := 0) (own_rm_val l Z a0 hw G1 S1 P1 aP aC aE aV lP lC lE kV B []  h0 n0 (Nat.le_trans Z0 (Nat.le_refl _)) XO ) hZ (hw _ own_w39) (hw _ own_w2) (by decide) (by decide)) (g := (mkF m 0 #[.val (.ref x1), .unset, .unset, .unset, .unset] [])) rfl (by rw [hml]; rfl) (argsL := []) (rest := []) (lenOf own_pd0 rfl) rfl (by show 2 * 0 + _ ≤ _; exact Nat.le_of_eq rfl) (hb hby own_d_prog_49_method_4_code_0) (fun _ _ => ⟨rfl, e0, (by decide : 0 + 1 ≤ _), (by decide : 0 + 3 ≤ _)⟩)
  dsimp only [Pt.U, Pt.locs, Pt.cells, Pt.slots] at X1 l1 y1 z1 st1 hQ1
  subst l1 y1 z1
  obtain ⟨r1, rfl, M1, E1, g1, V1⟩ := hQ1
  have N1 := Fr.app N0 M1
  obtain ⟨h1, e1⟩ : ∃ z, T1.heap = z := ⟨_, rfl⟩
  rw [e1] at E1 V1
  refine own_st (S' := T1.setTop (mkF m 3 #[.val (.ref x1), .unset, .unset, .unset, .unset] [(.ref r1)])) st1 ?_
  refine own_st (S' := T1.setTop (mkF m 5 #[.val (.ref x1), .val (.ref r1), .unset, .unset, .unset] [(.ref r1)])) (fun _ k => XS.astoreN X1.here hx rfl (hb hby own_d_prog_49_method_4_code_3) rfl rfl (l' := #[.val (.ref x1), .val (.ref r1), .unset, .unset, .unset]) rfl (XS.aloadN X1.here hx rfl (hb hby own_d_prog_49_method_4_code_4) rfl rfl k)) ?_
  obtain ⟨c2, A2, q2, S2, M2, H2, U2⟩ := id V1
  refine own_st (S' := T1.setTop (mkF m 6 #[.val (.ref x1), .val (.ref r1), .unset, .unset, .unset] [(.int (3 : Int32))])) (len_of S2 M2 ▸ X1.arraylength hx (by rw [e1]; exact A2.1) (State.isArrayOf_alike hZ.alike A2.2.1) (g := (mkF m 5 #[.val (.ref x1), .val (.ref r1), .unset, .unset, .unset] [(.ref r1)])) rfl rfl (hb hby own_d_prog_49_method_4_code_5)) ?_
  refine own_st (S' := T1.setTop (mkF m 10 #[.val (.ref x1), .val (.ref r1), .val (.int (3 : Int32)), .val (.int (0 : Int32)), .unset] [(.int (0 : Int32))])) (fun _ k => XS.istoreN X1.here hx rfl (hb hby own_d_prog_49_method_4_code_6) rfl (l' := #[.val (.ref x1), .val (.ref r1), .val (.int (3 : Int32)), .unset, .unset]) rfl (XS.iconst X1.here hx rfl (hb hby own_d_prog_49_method_4_code_7) (XS.istoreN X1.here hx rfl (hb hby own_d_prog_49_method_4_code_8) rfl (l' := #[.val (.ref x1), .val (.ref r1), .val (.int (3 : Int32)), .val (.int (0 : Int32)), .unset]) rfl (XS.iloadN X1.here hx rfl (hb hby own_d_prog_49_method_4_code_9) rfl k)))) ?_
  refine own_st (S' := T1.setTop (mkF m 16 #[.val (.ref x1), .val (.ref r1), .val (.int (3 : Int32)), .val (.int (0 : Int32)), .unset] [(.int (0 : Int32)), (.ref r1)])) (fun _ k => XS.iloadN X1.here hx rfl (hb hby own_d_prog_49_method_4_code_10) rfl (XS.icmpNo X1.here hx rfl (hb hby own_d_prog_49_method_4_code_11) rfl (by decide) (XS.aloadN X1.here hx rfl (hb hby own_d_prog_49_method_4_code_14) rfl rfl (XS.iloadN X1.here hx rfl (hb hby own_d_prog_49_method_4_code_15) rfl k)))) ?_
  obtain ⟨c3, A3, q3, S3, M3, H3, U3⟩ := id V1
  have i3 := inb_of (j := (0 : Int32)) S3 ⟨by decide, by decide⟩
  refine own_st (S' := T1.setTop (mkF m 17 #[.val (.ref x1), .val (.ref r1), .val (.int (3 : Int32)), .val (.int (0 : Int32)), .unset] [(.ref aP)])) (X1.aaload hx (j := (0 : Int32)) (v := (.ref aP)) (by rw [e1]; exact A3.1) (State.isArrayOf_alike hZ.alike A3.2.1) rfl A3.2.2 i3 (H3.at i3 rfl) (g := (mkF m 16 #[.val (.ref x1), .val (.ref r1), .val (.int (3 : Int32)), .val (.int (0 : Int32)), .unset] [(.int (0 : Int32)), (.ref r1)])) rfl rfl (hb hby own_d_prog_49_method_4_code_16)) ?_
  refine own_st (S' := T1.setTop (mkF m 21 #[.val (.ref x1), .val (.ref r1), .val (.int (3 : Int32)), .val (.int (0 : Int32)), .val (.ref aP)] [(.ref aP)])) (fun _ k => XS.astore X1.here hx rfl (hb hby own_d_prog_49_method_4_code_17) rfl rfl (l' := #[.val (.ref x1), .val (.ref r1), .val (.int (3 : Int32)), .val (.int (0 : Int32)), .val (.ref aP)]) rfl (XS.aload X1.here hx rfl (hb hby own_d_prog_49_method_4_code_19) rfl rfl k)) ?_
  have XO4 : Old Z n0 h1 := (XO.ext E1)
  have F5 : Fld Z h1 aP "com/example/rateloom/rateloom/repricing/RequestStatus" "label" "Ljava/lang/String;" (.ref lP) := (B4.ext XO4.2)
  obtain ⟨T6, X6, e6, st6⟩ := getF X1 hx hZ hown (host := "") (Or.inl (hw _ own_w54)) Via.refl e1 F5 (g := (mkF m 21 #[.val (.ref x1), .val (.ref r1), .val (.int (3 : Int32)), .val (.int (0 : Int32)), .val (.ref aP)] [(.ref aP)])) rfl rfl (hb hby own_d_prog_49_method_4_code_21)
  refine own_st (S' := T6.setTop (mkF m 24 #[.val (.ref x1), .val (.ref r1), .val (.int (3 : Int32)), .val (.int (0 : Int32)), .val (.ref aP)] [(.ref lP)])) st6 ?_
  refine own_st (S' := T6.setTop (mkF m 25 #[.val (.ref x1), .val (.ref r1), .val (.int (3 : Int32)), .val (.int (0 : Int32)), .val (.ref aP)] [(.ref x1), (.ref lP)])) (fun _ k => XS.aloadN X6.here hx rfl (hb hby own_d_prog_49_method_4_code_24) rfl rfl k) ?_
  have G7 : own_Str Z h1 lP own_csP := (B7.ext XO4.2)
  have G8 : own_Str Z h1 x1 cs := (F1.ext E1)
  have S9 : Sta Z h1 "java/lang/String" "COMPACT_STRINGS" "Z" (.int G1) := (S1.ext XO4.2)
  obtain ⟨cq10, kq10, q10a, q10b, q10c⟩ := isOf hZ e6 G7.exa
  obtain ⟨_, _, ⟨T10, L10, k10, n10⟩, -, X10, ⟨Lc10, hQ10, l10, y10, z10⟩, st10⟩ := X6.virtualBack hx (y := (⟨"java/lang/String", "equals", "(Ljava/lang/Object;)Z"⟩ : MethodName)) (z := (⟨"java/lang/String", "equals", "(Ljava/lang/Object;)Z"⟩ : MethodName)) hown (mvT hZ (hw _ own_w56)) (mvT hZ (hw _ own_w57)) (notFace_of_selects (args := #[]) (mvT hZ (hw _ own_w59))) (mvT hZ (hw _ own_w59)) (mvT hZ (hw _ own_w58)) (by decide) (own_eqB (W := 0) hZ hw G7 G8 S9 P1 (by decide) (by decide)) q10a q10c (g := (mkF m 25 #[.val (.ref x1), .val (.ref r1), .val (.int (3 : Int32)), .val (.int (0 : Int32)), .val (.ref aP)] [(.ref x1), (.ref lP)])) rfl (by rw [hml]; rfl) (Steps.refl _) (argsL := [(.ref x1)]) (rest := []) (lenOf own_pd1 rfl) rfl (by show 2 * 0 + _ ≤ _; exact Nat.le_of_eq rfl) (hb hby own_d_prog_49_method_4_code_25) (fun _ _ => ⟨rfl, e6, (by decide : 1 + 0 ≤ _), (by decide : 3 + 0 ≤ _)⟩)
  dsimp only [Pt.U, Pt.locs, Pt.cells, Pt.slots] at X10 l10 y10 z10 st10 hQ10
  subst l10 y10 z10
  obtain ⟨hQ10, rfl, e10⟩ := hQ10
  rw [List.append_nil] at X10
  rcases hQ10 with ⟨rfl, hc10⟩ | ⟨rfl, hc10⟩
  · refine own_tr (S' := T10.setTop (mkF m 28 #[.val (.ref x1), .val (.ref r1), .val (.int (3 : Int32)), .val (.int (0 : Int32)), .val (.ref aP)] [(.int (1 : Int32))])) st10 ?_
    refine own_st (S' := T10.setTop (mkF m 33 #[.val (.ref x1), .val (.ref r1), .val (.int (3 : Int32)), .val (.int (0 : Int32)), .val (.ref aP)] [(.ref aP)])) (fun _ k => XS.ifNo X10.here hx rfl (hb hby own_d_prog_49_method_4_code_28) rfl (by decide) (XS.aload X10.here hx rfl (hb hby own_d_prog_49_method_4_code_31) rfl rfl k)) ?_
    refine own_ret X10 hx Bd.returns hlk rfl (Or.inr (Or.inr (Or.inr (Or.inr ⟨rfl, rfl, rfl⟩)))) (hb hby own_d_prog_49_method_4_code_33) (by decide) (by decide) ?_
    rw [e10]
    exact ⟨_, rfl, N1, E1, Or.inl ⟨hc10.symm, rfl⟩⟩
  · refine own_tr (S' := T10.setTop (mkF m 28 #[.val (.ref x1), .val (.ref r1), .val (.int (3 : Int32)), .val (.int (0 : Int32)), .val (.ref aP)] [(.int (0 : Int32))])) st10 ?_
    refine own_st (S' := T10.setTop (mkF m 10 #[.val (.ref x1), .val (.ref r1), .val (.int (3 : Int32)), .val (.int (1 : Int32)), .val (.ref aP)] [(.int (1 : Int32))])) (fun _ k => XS.ifYes X10.here hx rfl (pc0 := 28) (pc' := 34) rfl (hb hby own_d_prog_49_method_4_code_28) rfl (by decide) (by decide) (by decide) (XS.iinc X10.here hx rfl (hb hby own_d_prog_49_method_4_code_34) rfl (l' := #[.val (.ref x1), .val (.ref r1), .val (.int (3 : Int32)), .val (.int (1 : Int32)), .val (.ref aP)]) rfl (XS.goto X10.here hx rfl (pc0 := 37) (pc' := 9) rfl (hb hby own_d_prog_49_method_4_code_37) (by decide) (by decide) (XS.iloadN X10.here hx rfl (hb hby own_d_prog_49_method_4_code_9) rfl k)))) ?_
    refine own_st (S' := T10.setTop (mkF m 16 #[.val (.ref x1), .val (.ref r1), .val (.int (3 : Int32)), .val (.int (1 : Int32)), .val (.ref aP)] [(.int (1 : Int32)), (.ref r1)])) (fun _ k => XS.iloadN X10.here hx rfl (hb hby own_d_prog_49_method_4_code_10) rfl (XS.icmpNo X10.here hx rfl (hb hby own_d_prog_49_method_4_code_11) rfl (by decide) (XS.aloadN X10.here hx rfl (hb hby own_d_prog_49_method_4_code_14) rfl rfl (XS.iloadN X10.here hx rfl (hb hby own_d_prog_49_method_4_code_15) rfl k)))) ?_
    obtain ⟨c11, A11, q11, S11, M11, H11, U11⟩ := id V1
    have i11 := inb_of (j := (1 : Int32)) S11 ⟨by decide, by decide⟩
    refine own_st (S' := T10.setTop (mkF m 17 #[.val (.ref x1), .val (.ref r1), .val (.int (3 : Int32)), .val (.int (1 : Int32)), .val (.ref aP)] [(.ref aC)])) (X10.aaload hx (j := (1 : Int32)) (v := (.ref aC)) (by rw [e10]; exact A11.1) (State.isArrayOf_alike hZ.alike A11.2.1) rfl A11.2.2 i11 (H11.at i11 rfl) (g := (mkF m 16 #[.val (.ref x1), .val (.ref r1), .val (.int (3 : Int32)), .val (.int (1 : Int32)), .val (.ref aP)] [(.int (1 : Int32)), (.ref r1)])) rfl rfl (hb hby own_d_prog_49_method_4_code_16)) ?_
    refine own_st (S' := T10.setTop (mkF m 21 #[.val (.ref x1), .val (.ref r1), .val (.int (3 : Int32)), .val (.int (1 : Int32)), .val (.ref aC)] [(.ref aC)])) (fun _ k => XS.astore X10.here hx rfl (hb hby own_d_prog_49_method_4_code_17) rfl rfl (l' := #[.val (.ref x1), .val (.ref r1), .val (.int (3 : Int32)), .val (.int (1 : Int32)), .val (.ref aC)]) rfl (XS.aload X10.here hx rfl (hb hby own_d_prog_49_method_4_code_19) rfl rfl k)) ?_
    have F12 : Fld Z h1 aC "com/example/rateloom/rateloom/repricing/RequestStatus" "label" "Ljava/lang/String;" (.ref lC) := (B5.ext XO4.2)
    obtain ⟨T13, X13, e13, st13⟩ := getF X10 hx hZ hown (host := "") (Or.inl (hw _ own_w54)) Via.refl e10 F12 (g := (mkF m 21 #[.val (.ref x1), .val (.ref r1), .val (.int (3 : Int32)), .val (.int (1 : Int32)), .val (.ref aC)] [(.ref aC)])) rfl rfl (hb hby own_d_prog_49_method_4_code_21)
    refine own_st (S' := T13.setTop (mkF m 24 #[.val (.ref x1), .val (.ref r1), .val (.int (3 : Int32)), .val (.int (1 : Int32)), .val (.ref aC)] [(.ref lC)])) st13 ?_
    refine own_st (S' := T13.setTop (mkF m 25 #[.val (.ref x1), .val (.ref r1), .val (.int (3 : Int32)), .val (.int (1 : Int32)), .val (.ref aC)] [(.ref x1), (.ref lC)])) (fun _ k => XS.aloadN X13.here hx rfl (hb hby own_d_prog_49_method_4_code_24) rfl rfl k) ?_
    have G14 : own_Str Z h1 lC own_csC := (B8.ext XO4.2)
    obtain ⟨cq15, kq15, q15a, q15b, q15c⟩ := isOf hZ e13 G14.exa
    obtain ⟨_, _, ⟨T15, L15, k15, n15⟩, -, X15, ⟨Lc15, hQ15, l15, y15, z15⟩, st15⟩ := X13.virtualBack hx (y := (⟨"java/lang/String", "equals", "(Ljava/lang/Object;)Z"⟩ : MethodName)) (z := (⟨"java/lang/String", "equals", "(Ljava/lang/Object;)Z"⟩ : MethodName)) hown (mvT hZ (hw _ own_w56)) (mvT hZ (hw _ own_w57)) (notFace_of_selects (args := #[]) (mvT hZ (hw _ own_w59))) (mvT hZ (hw _ own_w59)) (mvT hZ (hw _ own_w58)) (by decide) (own_eqB (W := 0) hZ hw G14 G8 S9 P1 (by decide) (by decide)) q15a q15c (g := (mkF m 25 #[.val (.ref x1), .val (.ref r1), .val (.int (3 : Int32)), .val (.int (1 : Int32)), .val (.ref aC)] [(.ref x1), (.ref lC)])) rfl (by rw [hml]; rfl) (Steps.refl _) (argsL := [(.ref x1)]) (rest := []) (lenOf own_pd1 rfl) rfl (by show 2 * 0 + _ ≤ _; exact Nat.le_of_eq rfl) (hb hby own_d_prog_49_method_4_code_25) (fun _ _ => ⟨rfl, e13, (by decide : 1 + 0 ≤ _), (by decide : 3 + 0 ≤ _)⟩)
    dsimp only [Pt.U, Pt.locs, Pt.cells, Pt.slots] at X15 l15 y15 z15 st15 hQ15
    subst l15 y15 z15
    obtain ⟨hQ15, rfl, e15⟩ := hQ15
    rw [List.append_nil] at X15
    rcases hQ15 with ⟨rfl, hc15⟩ | ⟨rfl, hc15⟩
    · refine own_tr (S' := T15.setTop (mkF m 28 #[.val (.ref x1), .val (.ref r1), .val (.int (3 : Int32)), .val (.int (1 : Int32)), .val (.ref aC)] [(.int (1 : Int32))])) st15 ?_
      refine own_st (S' := T15.setTop (mkF m 33 #[.val (.ref x1), .val (.ref r1), .val (.int (3 : Int32)), .val (.int (1 : Int32)), .val (.ref aC)] [(.ref aC)])) (fun _ k => XS.ifNo X15.here hx rfl (hb hby own_d_prog_49_method_4_code_28) rfl (by decide) (XS.aload X15.here hx rfl (hb hby own_d_prog_49_method_4_code_31) rfl rfl k)) ?_
      refine own_ret X15 hx Bd.returns hlk rfl (Or.inr (Or.inr (Or.inr (Or.inr ⟨rfl, rfl, rfl⟩)))) (hb hby own_d_prog_49_method_4_code_33) (by decide) (by decide) ?_
      rw [e15]
      exact ⟨_, rfl, N1, E1, Or.inr (Or.inl ⟨hc15.symm, rfl⟩)⟩
    · refine own_tr (S' := T15.setTop (mkF m 28 #[.val (.ref x1), .val (.ref r1), .val (.int (3 : Int32)), .val (.int (1 : Int32)), .val (.ref aC)] [(.int (0 : Int32))])) st15 ?_
      refine own_st (S' := T15.setTop (mkF m 10 #[.val (.ref x1), .val (.ref r1), .val (.int (3 : Int32)), .val (.int (2 : Int32)), .val (.ref aC)] [(.int (2 : Int32))])) (fun _ k => XS.ifYes X15.here hx rfl (pc0 := 28) (pc' := 34) rfl (hb hby own_d_prog_49_method_4_code_28) rfl (by decide) (by decide) (by decide) (XS.iinc X15.here hx rfl (hb hby own_d_prog_49_method_4_code_34) rfl (l' := #[.val (.ref x1), .val (.ref r1), .val (.int (3 : Int32)), .val (.int (2 : Int32)), .val (.ref aC)]) rfl (XS.goto X15.here hx rfl (pc0 := 37) (pc' := 9) rfl (hb hby own_d_prog_49_method_4_code_37) (by decide) (by decide) (XS.iloadN X15.here hx rfl (hb hby own_d_prog_49_method_4_code_9) rfl k)))) ?_
      refine own_st (S' := T15.setTop (mkF m 16 #[.val (.ref x1), .val (.ref r1), .val (.int (3 : Int32)), .val (.int (2 : Int32)), .val (.ref aC)] [(.int (2 : Int32)), (.ref r1)])) (fun _ k => XS.iloadN X15.here hx rfl (hb hby own_d_prog_49_method_4_code_10) rfl (XS.icmpNo X15.here hx rfl (hb hby own_d_prog_49_method_4_code_11) rfl (by decide) (XS.aloadN X15.here hx rfl (hb hby own_d_prog_49_method_4_code_14) rfl rfl (XS.iloadN X15.here hx rfl (hb hby own_d_prog_49_method_4_code_15) rfl k)))) ?_
      obtain ⟨c16, A16, q16, S16, M16, H16, U16⟩ := id V1
      have i16 := inb_of (j := (2 : Int32)) S16 ⟨by decide, by decide⟩
      refine own_st (S' := T15.setTop (mkF m 17 #[.val (.ref x1), .val (.ref r1), .val (.int (3 : Int32)), .val (.int (2 : Int32)), .val (.ref aC)] [(.ref aE)])) (X15.aaload hx (j := (2 : Int32)) (v := (.ref aE)) (by rw [e15]; exact A16.1) (State.isArrayOf_alike hZ.alike A16.2.1) rfl A16.2.2 i16 (H16.at i16 rfl) (g := (mkF m 16 #[.val (.ref x1), .val (.ref r1), .val (.int (3 : Int32)), .val (.int (2 : Int32)), .val (.ref aC)] [(.int (2 : Int32)), (.ref r1)])) rfl rfl (hb hby own_d_prog_49_method_4_code_16)) ?_
      refine own_st (S' := T15.setTop (mkF m 21 #[.val (.ref x1), .val (.ref r1), .val (.int (3 : Int32)), .val (.int (2 : Int32)), .val (.ref aE)] [(.ref aE)])) (fun _ k => XS.astore X15.here hx rfl (hb hby own_d_prog_49_method_4_code_17) rfl rfl (l' := #[.val (.ref x1), .val (.ref r1), .val (.int (3 : Int32)), .val (.int (2 : Int32)), .val (.ref aE)]) rfl (XS.aload X15.here hx rfl (hb hby own_d_prog_49_method_4_code_19) rfl rfl k)) ?_
      have F17 : Fld Z h1 aE "com/example/rateloom/rateloom/repricing/RequestStatus" "label" "Ljava/lang/String;" (.ref lE) := (B6.ext XO4.2)
      obtain ⟨T18, X18, e18, st18⟩ := getF X15 hx hZ hown (host := "") (Or.inl (hw _ own_w54)) Via.refl e15 F17 (g := (mkF m 21 #[.val (.ref x1), .val (.ref r1), .val (.int (3 : Int32)), .val (.int (2 : Int32)), .val (.ref aE)] [(.ref aE)])) rfl rfl (hb hby own_d_prog_49_method_4_code_21)
      refine own_st (S' := T18.setTop (mkF m 24 #[.val (.ref x1), .val (.ref r1), .val (.int (3 : Int32)), .val (.int (2 : Int32)), .val (.ref aE)] [(.ref lE)])) st18 ?_
      refine own_st (S' := T18.setTop (mkF m 25 #[.val (.ref x1), .val (.ref r1), .val (.int (3 : Int32)), .val (.int (2 : Int32)), .val (.ref aE)] [(.ref x1), (.ref lE)])) (fun _ k => XS.aloadN X18.here hx rfl (hb hby own_d_prog_49_method_4_code_24) rfl rfl k) ?_
      have G19 : own_Str Z h1 lE own_csE := (B9.ext XO4.2)
      obtain ⟨cq20, kq20, q20a, q20b, q20c⟩ := isOf hZ e18 G19.exa
      obtain ⟨_, _, ⟨T20, L20, k20, n20⟩, -, X20, ⟨Lc20, hQ20, l20, y20, z20⟩, st20⟩ := X18.virtualBack hx (y := (⟨"java/lang/String", "equals", "(Ljava/lang/Object;)Z"⟩ : MethodName)) (z := (⟨"java/lang/String", "equals", "(Ljava/lang/Object;)Z"⟩ : MethodName)) hown (mvT hZ (hw _ own_w56)) (mvT hZ (hw _ own_w57)) (notFace_of_selects (args := #[]) (mvT hZ (hw _ own_w59))) (mvT hZ (hw _ own_w59)) (mvT hZ (hw _ own_w58)) (by decide) (own_eqB (W := 0) hZ hw G19 G8 S9 P1 (by decide) (by decide)) q20a q20c (g := (mkF m 25 #[.val (.ref x1), .val (.ref r1), .val (.int (3 : Int32)), .val (.int (2 : Int32)), .val (.ref aE)] [(.ref x1), (.ref lE)])) rfl (by rw [hml]; rfl) (Steps.refl _) (argsL := [(.ref x1)]) (rest := []) (lenOf own_pd1 rfl) rfl (by show 2 * 0 + _ ≤ _; exact Nat.le_of_eq rfl) (hb hby own_d_prog_49_method_4_code_25) (fun _ _ => ⟨rfl, e18, (by decide : 1 + 0 ≤ _), (by decide : 3 + 0 ≤ _)⟩)
      dsimp only [Pt.U, Pt.locs, Pt.cells, Pt.slots] at X20 l20 y20 z20 st20 hQ20
      subst l20 y20 z20
      obtain ⟨hQ20, rfl, e20⟩ := hQ20
      rw [List.append_nil] at X20
      rcases hQ20 with ⟨rfl, hc20⟩ | ⟨rfl, hc20⟩
      · refine own_tr (S' := T20.setTop (mkF m 28 #[.val (.ref x1), .val (.ref r1), .val (.int (3 : Int32)), .val (.int (2 : Int32)), .val (.ref aE)] [(.int (1 : Int32))])) st20 ?_
        refine own_st (S' := T20.setTop (mkF m 33 #[.val (.ref x1), .val (.ref r1), .val (.int (3 : Int32)), .val (.int (2 : Int32)), .val (.ref aE)] [(.ref aE)])) (fun _ k => XS.ifNo X20.here hx rfl (hb hby own_d_prog_49_method_4_code_28) rfl (by decide) (XS.aload X20.here hx rfl (hb hby own_d_prog_49_method_4_code_31) rfl rfl k)) ?_
        refine own_ret X20 hx Bd.returns hlk rfl (Or.inr (Or.inr (Or.inr (Or.inr ⟨rfl, rfl, rfl⟩)))) (hb hby own_d_prog_49_method_4_code_33) (by decide) (by decide) ?_
        rw [e20]
        exact ⟨_, rfl, N1, E1, Or.inr (Or.inr ⟨hc20.symm, rfl⟩)⟩
      · refine own_tr (S' := T20.setTop (mkF m 28 #[.val (.ref x1), .val (.ref r1), .val (.int (3 : Int32)), .val (.int (2 : Int32)), .val (.ref aE)] [(.int (0 : Int32))])) st20 ?_
        refine own_st (S' := T20.setTop (mkF m 10 #[.val (.ref x1), .val (.ref r1), .val (.int (3 : Int32)), .val (.int (3 : Int32)), .val (.ref aE)] [(.int (3 : Int32))])) (fun _ k => XS.ifYes X20.here hx rfl (pc0 := 28) (pc' := 34) rfl (hb hby own_d_prog_49_method_4_code_28) rfl (by decide) (by decide) (by decide) (XS.iinc X20.here hx rfl (hb hby own_d_prog_49_method_4_code_34) rfl (l' := #[.val (.ref x1), .val (.ref r1), .val (.int (3 : Int32)), .val (.int (3 : Int32)), .val (.ref aE)]) rfl (XS.goto X20.here hx rfl (pc0 := 37) (pc' := 9) rfl (hb hby own_d_prog_49_method_4_code_37) (by decide) (by decide) (XS.iloadN X20.here hx rfl (hb hby own_d_prog_49_method_4_code_9) rfl k)))) ?_
        refine own_st (S' := T20.setTop (mkF m 40 #[.val (.ref x1), .val (.ref r1), .val (.int (3 : Int32)), .val (.int (3 : Int32)), .val (.ref aE)] [])) (fun _ k => XS.iloadN X20.here hx rfl (hb hby own_d_prog_49_method_4_code_10) rfl (XS.icmpYes X20.here hx rfl (pc0 := 11) (pc' := 40) rfl (hb hby own_d_prog_49_method_4_code_11) rfl (by decide) (by decide) (by decide) k)) ?_
        exact absurd hcs (fun q => q.elim (fun r => hc10 r.symm) fun q => q.elim (fun r => hc15 r.symm) fun r => hc20 r.symm)
def own_Q_law (Z : State) (h0 : Heap) (n0 : Nat) (v : Option Value) (h : Heap) (L : List Loc) : Prop := v = some (.int 1) ∧ Fr n0 L
theorem own_ef_law (m : MethodId) (p0 : Int32) : entryFrame m #[(.int p0)] maxLocals = mkF m 0 #[.val (.int p0), .unset, .unset, .unset, .unset, .unset, .unset] [] := by first | (simp [entryFrame, mkF, argsToLocals, Value.category, maxLocals]; done) | rfl
set_option maxRecDepth 65536 in
set_option maxHeartbeats 40000000 in
theorem own_rm_law (l : Launch) (Z : State) (a0 : Array Value) (hw : ∀ d ∈ tables_1, d.before a0 Z = true) (G1 : Int32) (S1 : Sta Z Z.heap "java/lang/String" "COMPACT_STRINGS" "Z" (.int G1)) (P1 : ¬ G1 = 0) (aP aC aE aV lP lC lE : Addr) (kV : ClassId) (B : own_Sta Z aP aC aE aV lP lC lE kV) (ws : List Jvm.Cond) (p0 : Int32) (h0 : Heap) (n0 : Nat) (Z0 : n0 ≤ h0.size) (XO : Old Z n0 h0) :
    MetFree l x (head1 (Jvm.Cond.code x code maxLocals ret :: ws) (room_1 : Room)) (fun a U => a = #[(.int p0)] ∧ Z.Warmed39 U.vm ∧ U.heap = h0) (fun _ _ _ _ _ => True) (fun _ U o U' => ∃ v L, o = .returned v ∧ (own_Q_law Z h0 n0) v U'.heap L ∧ FrameEnd U o U' L 24 128) := by
  refine MetFree.of_bodySF (plainFor_of_name own_pn1) hisR ?_
  intro p e s m args below meth c s₁ Bd hml0 hP hK
  obtain ⟨rfl, hZ, hh⟩ := hP
  have hx := Bd.exec
  have hby := Bd.bytes
  have hlk : meth.locks = false := BodyLoose.notSynchronized Bd
  have hml : c.maxLocals = 7 := hml0
  have hown : s.vm.findClass "com/example/rateloom/rateloom/repricing/RequestStatusOfLabelPinLaw" = some m.cls := findClass_of_methodNamed Bd.named
  have hnm := (name_of_methodNamed Bd.named Bd.method).1
  have X0 : Stand p l e (room_1 : Room) s m #[(.int p0)] below meth c s₁ [] 0 0 := Stand.of_body Bd
  have e0 : s₁.heap = h0 := by rw [← hh, Bd.state]; rfl
  have N0 := Fr.nil n0
  show own_Fin p e below (s₁.setTop (entryFrame m #[(.int p0)] maxLocals)) (own_End s ((own_Q_law Z h0 n0)) 24 128)
  refine own_st (S' := s₁.setTop (mkF m 0 #[.val (.int p0), .unset, .unset, .unset, .unset, .unset, .unset] [])) (fun _ k => castTop (own_ef_law m p0) k) ?_
  obtain ⟨B1, B2, B3, B4, B5, B6, B7, B8, B9, B10, B11, B12, B13, B14, B15⟩ := id B
  refine own_st (S' := s₁.setTop (mkF m 1 #[.val (.int p0), .unset, .unset, .unset, .unset, .unset, .unset] [(.int p0)])) (fun _ k => XS.iloadN X0.here hx rfl (hb hby at_0) rfl k) ?_
  refine own_st (S' := s₁.setTop (mkF m 3 #[.val (.int p0), .unset, .unset, .unset, .unset, .unset, .unset] [(.int (2147483647 : Int32)), (.int p0)])) (X0.ldcInt hx hown (mvT hZ (hw _ own_w0)) (g := (mkF m 1 #[.val (.int p0), .unset, .unset, .unset, .unset, .unset, .unset] [(.int p0)])) rfl (hb hby at_1)) ?_
  refine own_st (S' := s₁.setTop (mkF m 5 #[.val (.int p0), .unset, .unset, .unset, .unset, .unset, .unset] [(.int (3 : Int32)), (.int (p0 &&& (2147483647 : Int32)))])) (fun _ k => XS.iand X0.here hx rfl (hb hby at_3) rfl (XS.iconst X0.here hx rfl (hb hby at_4) k)) ?_
  refine own_st (S' := s₁.setTop (mkF m 6 #[.val (.int p0), .unset, .unset, .unset, .unset, .unset, .unset] [(.int ((p0 &&& (2147483647 : Int32)) % (3 : Int32)))])) (fun _ k => iremM X0 hx rfl (hb hby at_5) rfl (by decide) k) ?_
  refine own_st (S' := s₁.setTop (mkF m 8 #[.val (.int p0), .val (.int ((p0 &&& (2147483647 : Int32)) % (3 : Int32))), .unset, .unset, .unset, .unset, .unset] [(.int ((p0 &&& (2147483647 : Int32)) % (3 : Int32)))])) (fun _ k => XS.istoreN X0.here hx rfl (hb hby at_6) rfl (l' := #[.val (.int p0), .val (.int ((p0 &&& (2147483647 : Int32)) % (3 : Int32))), .unset, .unset, .unset, .unset, .unset]) rfl (XS.iloadN X0.here hx rfl (hb hby at_7) rfl k)) ?_
  by_cases hc1 : ((p0 &&& (2147483647 : Int32)) % (3 : Int32)) = (0 : Int32)
  · refine own_st (S' := s₁.setTop (mkF m 11 #[.val (.int p0), .val (.int ((p0 &&& (2147483647 : Int32)) % (3 : Int32))), .unset, .unset, .unset, .unset, .unset] [])) (fun _ k => XS.ifNo X0.here hx rfl (hb hby at_8) rfl ((if0 _ _).trans (teq hc1).2) k) ?_
    have S2 : Sta Z h0 "com/example/rateloom/rateloom/repricing/RequestStatus" "PENDING" "Lcom/example/rateloom/rateloom/repricing/RequestStatus;" (.ref aP) := (B10.ext XO.2)
    obtain ⟨T3, X3, e3, st3⟩ := getS2 X0 hx hZ hown (host := "") (Or.inl (hw _ own_w1)) Via.refl e0 S2 (g := (mkF m 11 #[.val (.int p0), .val (.int ((p0 &&& (2147483647 : Int32)) % (3 : Int32))), .unset, .unset, .unset, .unset, .unset] [])) rfl (hb hby at_11)
    refine own_st (S' := T3.setTop (mkF m 14 #[.val (.int p0), .val (.int ((p0 &&& (2147483647 : Int32)) % (3 : Int32))), .unset, .unset, .unset, .unset, .unset] [(.ref aP)])) st3 ?_
    refine own_st (S' := T3.setTop (mkF m 17 #[.val (.int p0), .val (.int ((p0 &&& (2147483647 : Int32)) % (3 : Int32))), .val (.ref aP), .unset, .unset, .unset, .unset] [(.int (7 : Int32))])) (fun _ k => XS.astoreN X3.here hx rfl (hb hby at_14) rfl rfl (l' := #[.val (.int p0), .val (.int ((p0 &&& (2147483647 : Int32)) % (3 : Int32))), .val (.ref aP), .unset, .unset, .unset, .unset]) rfl (XS.bipush X3.here hx rfl (hb hby at_15) k)) ?_
    obtain ⟨T4, h4, k4, X4, e4, E4, A4, AE4, st4⟩ := newPE X3 hx hZ (aty := .char) (hw _ own_w4) e3 (g := (mkF m 17 #[.val (.int p0), .val (.int ((p0 &&& (2147483647 : Int32)) % (3 : Int32))), .val (.ref aP), .unset, .unset, .unset, .unset] [(.int (7 : Int32))])) rfl (hb hby at_17) rfl (by decide) (cap := 7) (by decide) (by decide) (by decide) (by decide) (ad := "[C") (by decide)
    obtain ⟨b4, g4⟩ : ∃ z, z = h0.size := ⟨_, rfl⟩
    rw [← g4] at A4 AE4 st4
    have V4 : Arv Z h4 b4 k4 .char (7 : Int32) [(.int (0 : Int32)), (.int (0 : Int32)), (.int (0 : Int32)), (.int (0 : Int32)), (.int (0 : Int32)), (.int (0 : Int32)), (.int (0 : Int32))] (.int (0 : Int32)) := (Arv.new A4 (by decide)).pad (pad_rep [] (.int (0 : Int32)) 7)
    refine own_st (S' := T4.setTop (mkF m 19 #[.val (.int p0), .val (.int ((p0 &&& (2147483647 : Int32)) % (3 : Int32))), .val (.ref aP), .unset, .unset, .unset, .unset] [(.ref b4)])) st4 ?_
    refine own_st (S' := T4.setTop (mkF m 23 #[.val (.int p0), .val (.int ((p0 &&& (2147483647 : Int32)) % (3 : Int32))), .val (.ref aP), .unset, .unset, .unset, .unset] [(.int (80 : Int32)), (.int (0 : Int32)), (.ref b4), (.ref b4)])) (fun _ k => XS.dup X4.here hx rfl (hb hby at_19) rfl rfl (XS.iconst X4.here hx rfl (hb hby at_20) (XS.bipush X4.here hx rfl (hb hby at_21) k))) ?_
    obtain ⟨c5, A5, q5, S5, M5, H5, U5⟩ := id V4
    obtain ⟨T5, h5, X5, e5, W5, st5⟩ := stC X4 hx hZ e4 A5 (j := (0 : Int32)) (inb_of S5 ⟨by decide, by decide⟩) (g := (mkF m 23 #[.val (.int p0), .val (.int ((p0 &&& (2147483647 : Int32)) % (3 : Int32))), .val (.ref aP), .unset, .unset, .unset, .unset] [(.int (80 : Int32)), (.int (0 : Int32)), (.ref b4), (.ref b4)])) rfl rfl (hb hby at_23)
    have N5 := Fr.snoc X5 N0 (Nat.le_trans Z0 (Nat.le_of_eq g4.symm))
    have V5 : Arv Z h5 b4 k4 .char (7 : Int32) [(.int (80 : Int32)), (.int (0 : Int32)), (.int (0 : Int32)), (.int (0 : Int32)), (.int (0 : Int32)), (.int (0 : Int32)), (.int (0 : Int32))] (.int (0 : Int32)) := Arv.set A5 q5 S5 M5 H5 U5 (fits_nar_char _) W5 0 rfl (Nat.le_of_ble_eq_true rfl)
    refine own_st (S' := T5.setTop (mkF m 24 #[.val (.int p0), .val (.int ((p0 &&& (2147483647 : Int32)) % (3 : Int32))), .val (.ref aP), .unset, .unset, .unset, .unset] [(.ref b4)])) st5 ?_
    refine own_st (S' := T5.setTop (mkF m 28 #[.val (.int p0), .val (.int ((p0 &&& (2147483647 : Int32)) % (3 : Int32))), .val (.ref aP), .unset, .unset, .unset, .unset] [(.int (101 : Int32)), (.int (1 : Int32)), (.ref b4), (.ref b4)])) (fun _ k => XS.dup X5.here hx rfl (hb hby at_24) rfl rfl (XS.iconst X5.here hx rfl (hb hby at_25) (XS.bipush X5.here hx rfl (hb hby at_26) k))) ?_
    obtain ⟨c6, A6, q6, S6, M6, H6, U6⟩ := id V5
    obtain ⟨T6, h6, X6, e6, W6, st6⟩ := stC X5 hx hZ e5 A6 (j := (1 : Int32)) (inb_of S6 ⟨by decide, by decide⟩) (g := (mkF m 28 #[.val (.int p0), .val (.int ((p0 &&& (2147483647 : Int32)) % (3 : Int32))), .val (.ref aP), .unset, .unset, .unset, .unset] [(.int (101 : Int32)), (.int (1 : Int32)), (.ref b4), (.ref b4)])) rfl rfl (hb hby at_28)
    have N6 := Fr.snoc X6 N5 (Nat.le_trans Z0 (Nat.le_of_eq g4.symm))
    have V6 : Arv Z h6 b4 k4 .char (7 : Int32) [(.int (80 : Int32)), (.int (101 : Int32)), (.int (0 : Int32)), (.int (0 : Int32)), (.int (0 : Int32)), (.int (0 : Int32)), (.int (0 : Int32))] (.int (0 : Int32)) := Arv.set A6 q6 S6 M6 H6 U6 (fits_nar_char _) W6 1 rfl (Nat.le_of_ble_eq_true rfl)
    refine own_st (S' := T6.setTop (mkF m 29 #[.val (.int p0), .val (.int ((p0 &&& (2147483647 : Int32)) % (3 : Int32))), .val (.ref aP), .unset, .unset, .unset, .unset] [(.ref b4)])) st6 ?_
    refine own_st (S' := T6.setTop (mkF m 33 #[.val (.int p0), .val (.int ((p0 &&& (2147483647 : Int32)) % (3 : Int32))), .val (.ref aP), .unset, .unset, .unset, .unset] [(.int (110 : Int32)), (.int (2 : Int32)), (.ref b4), (.ref b4)])) (fun _ k => XS.dup X6.here hx rfl (hb hby at_29) rfl rfl (XS.iconst X6.here hx rfl (hb hby at_30) (XS.bipush X6.here hx rfl (hb hby at_31) k))) ?_
    obtain ⟨c7, A7, q7, S7, M7, H7, U7⟩ := id V6
    obtain ⟨T7, h7, X7, e7, W7, st7⟩ := stC X6 hx hZ e6 A7 (j := (2 : Int32)) (inb_of S7 ⟨by decide, by decide⟩) (g := (mkF m 33 #[.val (.int p0), .val (.int ((p0 &&& (2147483647 : Int32)) % (3 : Int32))), .val (.ref aP), .unset, .unset, .unset, .unset] [(.int (110 : Int32)), (.int (2 : Int32)), (.ref b4), (.ref b4)])) rfl rfl (hb hby at_33)
    have N7 := Fr.snoc X7 N6 (Nat.le_trans Z0 (Nat.le_of_eq g4.symm))
    have V7 : Arv Z h7 b4 k4 .char (7 : Int32) [(.int (80 : Int32)), (.int (101 : Int32)), (.int (110 : Int32)), (.int (0 : Int32)), (.int (0 : Int32)), (.int (0 : Int32)), (.int (0 : Int32))] (.int (0 : Int32)) := Arv.set A7 q7 S7 M7 H7 U7 (fits_nar_char _) W7 2 rfl (Nat.le_of_ble_eq_true rfl)
    refine own_st (S' := T7.setTop (mkF m 34 #[.val (.int p0), .val (.int ((p0 &&& (2147483647 : Int32)) % (3 : Int32))), .val (.ref aP), .unset, .unset, .unset, .unset] [(.ref b4)])) st7 ?_
    refine own_st (S' := T7.setTop (mkF m 38 #[.val (.int p0), .val (.int ((p0 &&& (2147483647 : Int32)) % (3 : Int32))), .val (.ref aP), .unset, .unset, .unset, .unset] [(.int (100 : Int32)), (.int (3 : Int32)), (.ref b4), (.ref b4)])) (fun _ k => XS.dup X7.here hx rfl (hb hby at_34) rfl rfl (XS.iconst X7.here hx rfl (hb hby at_35) (XS.bipush X7.here hx rfl (hb hby at_36) k))) ?_
    obtain ⟨c8, A8, q8, S8, M8, H8, U8⟩ := id V7
    obtain ⟨T8, h8, X8, e8, W8, st8⟩ := stC X7 hx hZ e7 A8 (j := (3 : Int32)) (inb_of S8 ⟨by decide, by decide⟩) (g := (mkF m 38 #[.val (.int p0), .val (.int ((p0 &&& (2147483647 : Int32)) % (3 : Int32))), .val (.ref aP), .unset, .unset, .unset, .unset] [(.int (100 : Int32)), (.int (3 : Int32)), (.ref b4), (.ref b4)])) rfl rfl (hb hby at_38)
    have N8 := Fr.snoc X8 N7 (Nat.le_trans Z0 (Nat.le_of_eq g4.symm))
    have V8 : Arv Z h8 b4 k4 .char (7 : Int32) [(.int (80 : Int32)), (.int (101 : Int32)), (.int (110 : Int32)), (.int (100 : Int32)), (.int (0 : Int32)), (.int (0 : Int32)), (.int (0 : Int32))] (.int (0 : Int32)) := Arv.set A8 q8 S8 M8 H8 U8 (fits_nar_char _) W8 3 rfl (Nat.le_of_ble_eq_true rfl)
    refine own_st (S' := T8.setTop (mkF m 39 #[.val (.int p0), .val (.int ((p0 &&& (2147483647 : Int32)) % (3 : Int32))), .val (.ref aP), .unset, .unset, .unset, .unset] [(.ref b4)])) st8 ?_
    refine own_st (S' := T8.setTop (mkF m 43 #[.val (.int p0), .val (.int ((p0 &&& (2147483647 : Int32)) % (3 : Int32))), .val (.ref aP), .unset, .unset, .unset, .unset] [(.int (105 : Int32)), (.int (4 : Int32)), (.ref b4), (.ref b4)])) (fun _ k => XS.dup X8.here hx rfl (hb hby at_39) rfl rfl (XS.iconst X8.here hx rfl (hb hby at_40) (XS.bipush X8.here hx rfl (hb hby at_41) k))) ?_
    obtain ⟨c9, A9, q9, S9, M9, H9, U9⟩ := id V8
    obtain ⟨T9, h9, X9, e9, W9, st9⟩ := stC X8 hx hZ e8 A9 (j := (4 : Int32)) (inb_of S9 ⟨by decide, by decide⟩) (g := (mkF m 43 #[.val (.int p0), .val (.int ((p0 &&& (2147483647 : Int32)) % (3 : Int32))), .val (.ref aP), .unset, .unset, .unset, .unset] [(.int (105 : Int32)), (.int (4 : Int32)), (.ref b4), (.ref b4)])) rfl rfl (hb hby at_43)
    have N9 := Fr.snoc X9 N8 (Nat.le_trans Z0 (Nat.le_of_eq g4.symm))
    have V9 : Arv Z h9 b4 k4 .char (7 : Int32) [(.int (80 : Int32)), (.int (101 : Int32)), (.int (110 : Int32)), (.int (100 : Int32)), (.int (105 : Int32)), (.int (0 : Int32)), (.int (0 : Int32))] (.int (0 : Int32)) := Arv.set A9 q9 S9 M9 H9 U9 (fits_nar_char _) W9 4 rfl (Nat.le_of_ble_eq_true rfl)
    refine own_st (S' := T9.setTop (mkF m 44 #[.val (.int p0), .val (.int ((p0 &&& (2147483647 : Int32)) % (3 : Int32))), .val (.ref aP), .unset, .unset, .unset, .unset] [(.ref b4)])) st9 ?_
    refine own_st (S' := T9.setTop (mkF m 48 #[.val (.int p0), .val (.int ((p0 &&& (2147483647 : Int32)) % (3 : Int32))), .val (.ref aP), .unset, .unset, .unset, .unset] [(.int (110 : Int32)), (.int (5 : Int32)), (.ref b4), (.ref b4)])) (fun _ k => XS.dup X9.here hx rfl (hb hby at_44) rfl rfl (XS.iconst X9.here hx rfl (hb hby at_45) (XS.bipush X9.here hx rfl (hb hby at_46) k))) ?_
    obtain ⟨c10, A10, q10, S10, M10, H10, U10⟩ := id V9
    obtain ⟨T10, h10, X10, e10, W10, st10⟩ := stC X9 hx hZ e9 A10 (j := (5 : Int32)) (inb_of S10 ⟨by decide, by decide⟩) (g := (mkF m 48 #[.val (.int p0), .val (.int ((p0 &&& (2147483647 : Int32)) % (3 : Int32))), .val (.ref aP), .unset, .unset, .unset, .unset] [(.int (110 : Int32)), (.int (5 : Int32)), (.ref b4), (.ref b4)])) rfl rfl (hb hby at_48)
    have N10 := Fr.snoc X10 N9 (Nat.le_trans Z0 (Nat.le_of_eq g4.symm))
    have V10 : Arv Z h10 b4 k4 .char (7 : Int32) [(.int (80 : Int32)), (.int (101 : Int32)), (.int (110 : Int32)), (.int (100 : Int32)), (.int (105 : Int32)), (.int (110 : Int32)), (.int (0 : Int32))] (.int (0 : Int32)) := Arv.set A10 q10 S10 M10 H10 U10 (fits_nar_char _) W10 5 rfl (Nat.le_of_ble_eq_true rfl)
    refine own_st (S' := T10.setTop (mkF m 49 #[.val (.int p0), .val (.int ((p0 &&& (2147483647 : Int32)) % (3 : Int32))), .val (.ref aP), .unset, .unset, .unset, .unset] [(.ref b4)])) st10 ?_
    refine own_st (S' := T10.setTop (mkF m 54 #[.val (.int p0), .val (.int ((p0 &&& (2147483647 : Int32)) % (3 : Int32))), .val (.ref aP), .unset, .unset, .unset, .unset] [(.int (103 : Int32)), (.int (6 : Int32)), (.ref b4), (.ref b4)])) (fun _ k => XS.dup X10.here hx rfl (hb hby at_49) rfl rfl (XS.bipush X10.here hx rfl (hb hby at_50) (XS.bipush X10.here hx rfl (hb hby at_52) k))) ?_
    obtain ⟨c11, A11, q11, S11, M11, H11, U11⟩ := id V10
    obtain ⟨T11, h11, X11, e11, W11, st11⟩ := stC X10 hx hZ e10 A11 (j := (6 : Int32)) (inb_of S11 ⟨by decide, by decide⟩) (g := (mkF m 54 #[.val (.int p0), .val (.int ((p0 &&& (2147483647 : Int32)) % (3 : Int32))), .val (.ref aP), .unset, .unset, .unset, .unset] [(.int (103 : Int32)), (.int (6 : Int32)), (.ref b4), (.ref b4)])) rfl rfl (hb hby at_54)
    have N11 := Fr.snoc X11 N10 (Nat.le_trans Z0 (Nat.le_of_eq g4.symm))
    have V11 : Arv Z h11 b4 k4 .char (7 : Int32) [(.int (80 : Int32)), (.int (101 : Int32)), (.int (110 : Int32)), (.int (100 : Int32)), (.int (105 : Int32)), (.int (110 : Int32)), (.int (103 : Int32))] (.int (0 : Int32)) := Arv.set A11 q11 S11 M11 H11 U11 (fits_nar_char _) W11 6 rfl (Nat.le_of_ble_eq_true rfl)
    refine own_st (S' := T11.setTop (mkF m 55 #[.val (.int p0), .val (.int ((p0 &&& (2147483647 : Int32)) % (3 : Int32))), .val (.ref aP), .unset, .unset, .unset, .unset] [(.ref b4)])) st11 ?_
    refine own_st (S' := T11.setTop (mkF m 151 #[.val (.int p0), .val (.int ((p0 &&& (2147483647 : Int32)) % (3 : Int32))), .val (.ref aP), .val (.ref b4), .unset, .unset, .unset] [])) (fun _ k => XS.astoreN X11.here hx rfl (hb hby at_55) rfl rfl (l' := #[.val (.int p0), .val (.int ((p0 &&& (2147483647 : Int32)) % (3 : Int32))), .val (.ref aP), .val (.ref b4), .unset, .unset, .unset]) rfl (XS.goto X11.here hx rfl (pc0 := 56) (pc' := 151) rfl (hb hby at_56) (by decide) (by decide) k)) ?_
    obtain ⟨T12, h12, X12, e12, E12, A12, D12, -, st12⟩ := newO X11 hx hZ hown (hw _ own_w5) (hw _ own_w6) (hw _ own_w7) e11 (g := (mkF m 151 #[.val (.int p0), .val (.int ((p0 &&& (2147483647 : Int32)) % (3 : Int32))), .val (.ref aP), .val (.ref b4), .unset, .unset, .unset] [])) rfl (hb hby at_151) (by decide) (by decide)
    obtain ⟨b12, g12⟩ : ∃ z, z = h11.size := ⟨_, rfl⟩
    rw [← g12] at A12 D12 st12
    refine own_st (S' := T12.setTop (mkF m 154 #[.val (.int p0), .val (.int ((p0 &&& (2147483647 : Int32)) % (3 : Int32))), .val (.ref aP), .val (.ref b4), .unset, .unset, .unset] [(.ref b12)])) st12 ?_
    refine own_st (S' := T12.setTop (mkF m 156 #[.val (.int p0), .val (.int ((p0 &&& (2147483647 : Int32)) % (3 : Int32))), .val (.ref aP), .val (.ref b4), .unset, .unset, .unset] [(.ref b4), (.ref b12), (.ref b12)])) (fun _ k => XS.dup X12.here hx rfl (hb hby at_154) rfl rfl (XS.aloadN X12.here hx rfl (hb hby at_155) rfl rfl k)) ?_
    have V13 : Arv Z h12 b4 k4 .char (7 : Int32) [(.int (80 : Int32)), (.int (101 : Int32)), (.int (110 : Int32)), (.int (100 : Int32)), (.int (105 : Int32)), (.int (110 : Int32)), (.int (103 : Int32))] (.int (0 : Int32)) := (V11.ext E12)
    have XE14 : Ext h0 h12 := (own_xt (own_xw (own_xw (own_xw (own_xw (own_xw (own_xw (own_xw E4 W5 (Nat.le_of_eq g4.symm)) W6 (Nat.le_of_eq g4.symm)) W7 (Nat.le_of_eq g4.symm)) W8 (Nat.le_of_eq g4.symm)) W9 (Nat.le_of_eq g4.symm)) W10 (Nat.le_of_eq g4.symm)) W11 (Nat.le_of_eq g4.symm)) E12)
    have XO15 : Old Z n0 h12 := (XO.ext XE14)
    have S16 : Sta Z h12 "java/lang/String" "COMPACT_STRINGS" "Z" (.int G1) := (S1.ext XO15.2)
    obtain ⟨_, _, ⟨T17, L17, k17, n17⟩, -, X17, ⟨Lc17, hQ17, l17, y17, z17⟩, st17⟩ := X12.specialBack hx (y := (⟨"java/lang/String", "<init>", "([C)V"⟩ : MethodName)) rfl hown (mvT hZ (hw _ own_w8)) (mvT hZ (hw _ own_w9)) (mvT hZ (hw _ own_w10)) (by decide) (own_newB (W := 1) hZ hw (cs := own_csP) (n := 7) (n0 := n0) (Nat.le_trans Z0 (Nat.le_trans (Nat.le_trans (Nat.le_trans (Nat.le_trans (Nat.le_trans (Nat.le_trans (Nat.le_trans (Nat.le_trans E4.1 (Nat.le_of_eq W5.size.symm)) (Nat.le_of_eq W6.size.symm)) (Nat.le_of_eq W7.size.symm)) (Nat.le_of_eq W8.size.symm)) (Nat.le_of_eq W9.size.symm)) (Nat.le_of_eq W10.size.symm)) (Nat.le_of_eq W11.size.symm)) (Nat.le_of_eq g12.symm))) (Nat.le_trans Z0 (Nat.le_trans (Nat.le_trans (Nat.le_trans (Nat.le_trans (Nat.le_trans (Nat.le_trans (Nat.le_trans (Nat.le_trans E4.1 (Nat.le_of_eq W5.size.symm)) (Nat.le_of_eq W6.size.symm)) (Nat.le_of_eq W7.size.symm)) (Nat.le_of_eq W8.size.symm)) (Nat.le_of_eq W9.size.symm)) (Nat.le_of_eq W10.size.symm)) (Nat.le_of_eq W11.size.symm)) E12.1)) A12 (D12 (Or.inr (hw _ own_w33)) (ty := (.array .byte)) (by decide)) (D12 (Or.inr (hw _ own_w31)) (ty := .byte) (by decide)) V13 S16 P1 rfl rfl (by decide) (by decide) own_hpP (by decide) (by decide)) (g := (mkF m 156 #[.val (.int p0), .val (.int ((p0 &&& (2147483647 : Int32)) % (3 : Int32))), .val (.ref aP), .val (.ref b4), .unset, .unset, .unset] [(.ref b4), (.ref b12), (.ref b12)])) rfl (by rw [hml]; rfl) (Steps.refl _) (a := b12) (argsL := [(.ref b4)]) (rest := [(.ref b12)]) (lenOf own_pd2 rfl) rfl (by show 2 * 0 + _ ≤ _; exact Nat.le_of_eq rfl) (hb hby at_156) (fun _ _ => ⟨rfl, e12, (by decide : 2 + 1 ≤ _), (by decide : 11 + 7 ≤ _)⟩)
    dsimp only [Pt.U, Pt.locs, Pt.cells, Pt.slots] at X17 l17 y17 z17 st17 hQ17
    subst l17 y17 z17
    obtain ⟨rfl, M17, K17, Y17⟩ := hQ17
    have N17 := Fr.app N11 M17
    obtain ⟨h17, e17⟩ : ∃ z, T17.heap = z := ⟨_, rfl⟩
    rw [e17] at K17 Y17
    refine own_tr (S' := T17.setTop (mkF m 159 #[.val (.int p0), .val (.int ((p0 &&& (2147483647 : Int32)) % (3 : Int32))), .val (.ref aP), .val (.ref b4), .unset, .unset, .unset] [(.ref b12)])) st17 ?_
    refine own_st (S' := T17.setTop (mkF m 163 #[.val (.int p0), .val (.int ((p0 &&& (2147483647 : Int32)) % (3 : Int32))), .val (.ref aP), .val (.ref b4), .val (.ref b12), .unset, .unset] [(.ref b12)])) (fun _ k => XS.astore X17.here hx rfl (hb hby at_159) rfl rfl (l' := #[.val (.int p0), .val (.int ((p0 &&& (2147483647 : Int32)) % (3 : Int32))), .val (.ref aP), .val (.ref b4), .val (.ref b12), .unset, .unset]) rfl (XS.aload X17.here hx rfl (hb hby at_161) rfl rfl k)) ?_
    have XO18 : Old Z n0 h17 := (XO15.keep K17 (allS (Nat.le_trans Z0 (Nat.le_trans (Nat.le_trans (Nat.le_trans (Nat.le_trans (Nat.le_trans (Nat.le_trans (Nat.le_trans (Nat.le_trans E4.1 (Nat.le_of_eq W5.size.symm)) (Nat.le_of_eq W6.size.symm)) (Nat.le_of_eq W7.size.symm)) (Nat.le_of_eq W8.size.symm)) (Nat.le_of_eq W9.size.symm)) (Nat.le_of_eq W10.size.symm)) (Nat.le_of_eq W11.size.symm)) (Nat.le_of_eq g12.symm))) all0))
    obtain ⟨_, _, ⟨T19, L19, k19, n19⟩, -, X19, ⟨Lc19, hQ19, l19, y19, z19⟩, st19⟩ := Jvm.LawKit.callS X17 hx (y := (⟨"com/example/rateloom/rateloom/repricing/RequestStatus", "ofLabel", "(Ljava/lang/String;)Lcom/example/rateloom/rateloom/repricing/RequestStatus;"⟩ : MethodName)) hown (mvT hZ (hw _ own_w34)) (mvT hZ (hw _ own_w35)) (mvT hZ (hw _ own_w2)) (mvT hZ (hw _ own_w36)) (by decide) (backOf (W := 0) (own_rm_of l Z a0 hw G1 S1 P1 aP aC aE aV lP lC lE kV B [] b12 own_csP h17 n0 (Nat.le_trans Z0 (Nat.le_trans (Nat.le_trans (Nat.le_trans (Nat.le_trans (Nat.le_trans (Nat.le_trans (Nat.le_trans (Nat.le_trans (Nat.le_trans E4.1 (Nat.le_of_eq W5.size.symm)) (Nat.le_of_eq W6.size.symm)) (Nat.le_of_eq W7.size.symm)) (Nat.le_of_eq W8.size.symm)) (Nat.le_of_eq W9.size.symm)) (Nat.le_of_eq W10.size.symm)) (Nat.le_of_eq W11.size.symm)) E12.1) K17.1)) XO18 Y17 (Or.inl rfl)) hZ (hw _ own_w36) (hw _ own_w2) (by decide) (by decide)) (g := (mkF m 163 #[.val (.int p0), .val (.int ((p0 &&& (2147483647 : Int32)) % (3 : Int32))), .val (.ref aP), .val (.ref b4), .val (.ref b12), .unset, .unset] [(.ref b12)])) rfl (by rw [hml]; rfl) (argsL := [(.ref b12)]) (rest := []) (lenOf own_pd3 rfl) rfl (by show 2 * 0 + _ ≤ _; exact Nat.le_of_eq rfl) (hb hby at_163) (fun _ _ => ⟨rfl, e17, (by decide : 3 + 1 ≤ _), (by decide : 18 + 3 ≤ _)⟩)
    dsimp only [Pt.U, Pt.locs, Pt.cells, Pt.slots] at X19 l19 y19 z19 st19 hQ19
    subst l19 y19 z19
    obtain ⟨r19, rfl, M19, E19, o19⟩ := hQ19
    have N19 := Fr.app N17 M19
    obtain ⟨h19, e19⟩ : ∃ z, T19.heap = z := ⟨_, rfl⟩
    rw [e19] at E19
    obtain rfl : aP = r19 := by
      rcases o19 with ⟨q, r⟩ | ⟨q, r⟩ | ⟨q, r⟩
      · exact r.symm
      · exact absurd q (by decide)
      · exact absurd q (by decide)
    refine own_st (S' := T19.setTop (mkF m 166 #[.val (.int p0), .val (.int ((p0 &&& (2147483647 : Int32)) % (3 : Int32))), .val (.ref aP), .val (.ref b4), .val (.ref b12), .unset, .unset] [(.ref aP)])) st19 ?_
    refine own_st (S' := T19.setTop (mkF m 169 #[.val (.int p0), .val (.int ((p0 &&& (2147483647 : Int32)) % (3 : Int32))), .val (.ref aP), .val (.ref b4), .val (.ref b12), .val (.ref aP), .unset] [(.ref aP)])) (fun _ k => XS.astore X19.here hx rfl (hb hby at_166) rfl rfl (l' := #[.val (.int p0), .val (.int ((p0 &&& (2147483647 : Int32)) % (3 : Int32))), .val (.ref aP), .val (.ref b4), .val (.ref b12), .val (.ref aP), .unset]) rfl (XS.aloadN X19.here hx rfl (hb hby at_168) rfl rfl k)) ?_
    have XO20 : Old Z n0 h19 := (XO18.ext E19)
    have A22 : Exa Z h19 aP "com/example/rateloom/rateloom/repricing/RequestStatus" := (B13.ext XO20.2)
    obtain ⟨cq21, kq21, q21a, q21b, q21c⟩ := isOf hZ e19 A22
    obtain ⟨_, _, ⟨T21, L21, k21, n21⟩, -, X21, ⟨Lc21, hQ21, l21, y21, z21⟩, st21⟩ := X19.virtualBack hx (y := (⟨"com/example/rateloom/rateloom/repricing/RequestStatus", "label", "()Ljava/lang/String;"⟩ : MethodName)) (z := (⟨"com/example/rateloom/rateloom/repricing/RequestStatus", "label", "()Ljava/lang/String;"⟩ : MethodName)) hown (mvT hZ (hw _ own_w66)) (mvT hZ (hw _ own_w67)) (notFace_of_selects (args := #[]) (mvT hZ (hw _ own_w69))) (mvT hZ (hw _ own_w69)) (mvT hZ (hw _ own_w68)) (by decide) (backOf (W := 0) (own_rm_lab l Z a0 hw G1 S1 P1 aP aC aE aV lP lC lE kV B [] aP lP h19 n0 (Nat.le_trans Z0 (Nat.le_trans (Nat.le_trans (Nat.le_trans (Nat.le_trans (Nat.le_trans (Nat.le_trans (Nat.le_trans (Nat.le_trans (Nat.le_trans (Nat.le_trans E4.1 (Nat.le_of_eq W5.size.symm)) (Nat.le_of_eq W6.size.symm)) (Nat.le_of_eq W7.size.symm)) (Nat.le_of_eq W8.size.symm)) (Nat.le_of_eq W9.size.symm)) (Nat.le_of_eq W10.size.symm)) (Nat.le_of_eq W11.size.symm)) E12.1) K17.1) E19.1)) XO20 B4) hZ (hw _ own_w70) (hw _ own_w2) (by decide) (by decide)) q21a q21c (g := (mkF m 169 #[.val (.int p0), .val (.int ((p0 &&& (2147483647 : Int32)) % (3 : Int32))), .val (.ref aP), .val (.ref b4), .val (.ref b12), .val (.ref aP), .unset] [(.ref aP)])) rfl (by rw [hml]; rfl) (Steps.refl _) (argsL := []) (rest := []) (lenOf own_pd4 rfl) rfl (by show 2 * 0 + _ ≤ _; exact Nat.le_of_eq rfl) (hb hby at_169) (fun _ _ => ⟨rfl, e19, (by decide : 4 + 0 ≤ _), (by decide : 21 + 0 ≤ _)⟩)
    dsimp only [Pt.U, Pt.locs, Pt.cells, Pt.slots] at X21 l21 y21 z21 st21 hQ21
    subst l21 y21 z21
    obtain ⟨rfl, M21, e21⟩ := hQ21
    have N21 := Fr.app N19 M21
    refine own_tr (S' := T21.setTop (mkF m 172 #[.val (.int p0), .val (.int ((p0 &&& (2147483647 : Int32)) % (3 : Int32))), .val (.ref aP), .val (.ref b4), .val (.ref b12), .val (.ref aP), .unset] [(.ref lP)])) st21 ?_
    have G23 : own_Str Z h19 lP own_csP := (B7.ext XO20.2)
    obtain ⟨_, _, ⟨T24, L24, k24, n24⟩, -, X24, ⟨Lc24, hQ24, l24, y24, z24⟩, st24⟩ := Jvm.LawKit.callS X21 hx (y := (⟨"com/example/rateloom/rateloom/repricing/RequestStatus", "ofLabel", "(Ljava/lang/String;)Lcom/example/rateloom/rateloom/repricing/RequestStatus;"⟩ : MethodName)) hown (mvT hZ (hw _ own_w34)) (mvT hZ (hw _ own_w35)) (mvT hZ (hw _ own_w2)) (mvT hZ (hw _ own_w36)) (by decide) (backOf (W := 0) (own_rm_of l Z a0 hw G1 S1 P1 aP aC aE aV lP lC lE kV B [] lP own_csP h19 n0 (Nat.le_trans Z0 (Nat.le_trans (Nat.le_trans (Nat.le_trans (Nat.le_trans (Nat.le_trans (Nat.le_trans (Nat.le_trans (Nat.le_trans (Nat.le_trans (Nat.le_trans E4.1 (Nat.le_of_eq W5.size.symm)) (Nat.le_of_eq W6.size.symm)) (Nat.le_of_eq W7.size.symm)) (Nat.le_of_eq W8.size.symm)) (Nat.le_of_eq W9.size.symm)) (Nat.le_of_eq W10.size.symm)) (Nat.le_of_eq W11.size.symm)) E12.1) K17.1) E19.1)) XO20 G23 (Or.inl rfl)) hZ (hw _ own_w36) (hw _ own_w2) (by decide) (by decide)) (g := (mkF m 172 #[.val (.int p0), .val (.int ((p0 &&& (2147483647 : Int32)) % (3 : Int32))), .val (.ref aP), .val (.ref b4), .val (.ref b12), .val (.ref aP), .unset] [(.ref lP)])) rfl (by rw [hml]; rfl) (argsL := [(.ref lP)]) (rest := []) (lenOf own_pd3 rfl) rfl (by show 2 * 0 + _ ≤ _; exact Nat.le_of_eq rfl) (hb hby at_172) (fun _ _ => ⟨rfl, e21, (by decide : 4 + 1 ≤ _), (by decide : 21 + 3 ≤ _)⟩)
    dsimp only [Pt.U, Pt.locs, Pt.cells, Pt.slots] at X24 l24 y24 z24 st24 hQ24
    subst l24 y24 z24
    obtain ⟨r24, rfl, M24, E24, o24⟩ := hQ24
    have N24 := Fr.app N21 M24
    obtain ⟨h24, e24⟩ : ∃ z, T24.heap = z := ⟨_, rfl⟩
    rw [e24] at E24
    obtain rfl : aP = r24 := by
      rcases o24 with ⟨q, r⟩ | ⟨q, r⟩ | ⟨q, r⟩
      · exact r.symm
      · exact absurd q (by decide)
      · exact absurd q (by decide)
    refine own_st (S' := T24.setTop (mkF m 175 #[.val (.int p0), .val (.int ((p0 &&& (2147483647 : Int32)) % (3 : Int32))), .val (.ref aP), .val (.ref b4), .val (.ref b12), .val (.ref aP), .unset] [(.ref aP)])) st24 ?_
    refine own_st (S' := T24.setTop (mkF m 180 #[.val (.int p0), .val (.int ((p0 &&& (2147483647 : Int32)) % (3 : Int32))), .val (.ref aP), .val (.ref b4), .val (.ref b12), .val (.ref aP), .val (.ref aP)] [(.ref aP), (.ref aP)])) (fun _ k => XS.astore X24.here hx rfl (hb hby at_175) rfl rfl (l' := #[.val (.int p0), .val (.int ((p0 &&& (2147483647 : Int32)) % (3 : Int32))), .val (.ref aP), .val (.ref b4), .val (.ref b12), .val (.ref aP), .val (.ref aP)]) rfl (XS.aload X24.here hx rfl (hb hby at_177) rfl rfl (XS.aloadN X24.here hx rfl (hb hby at_179) rfl rfl k))) ?_
    refine own_st (S' := T24.setTop (mkF m 183 #[.val (.int p0), .val (.int ((p0 &&& (2147483647 : Int32)) % (3 : Int32))), .val (.ref aP), .val (.ref b4), .val (.ref b12), .val (.ref aP), .val (.ref aP)] [])) (fun _ k => Jvm.RoadKit.acmp (g := (mkF m 180 #[.val (.int p0), .val (.int ((p0 &&& (2147483647 : Int32)) % (3 : Int32))), .val (.ref aP), .val (.ref b4), .val (.ref b12), .val (.ref aP), .val (.ref aP)] [(.ref aP), (.ref aP)])) X24 hx rfl rfl rfl (pc0 := 180) (pc' := 183) (same := true) rfl (hb hby at_180) rfl (decide_eq_true rfl) (by decide) (by decide) k) ?_
    refine own_st (S' := T24.setTop (mkF m 186 #[.val (.int p0), .val (.int ((p0 &&& (2147483647 : Int32)) % (3 : Int32))), .val (.ref aP), .val (.ref b4), .val (.ref b12), .val (.ref aP), .val (.ref aP)] [(.ref aP), (.ref aP)])) (fun _ k => XS.aload X24.here hx rfl (hb hby at_183) rfl rfl (XS.aloadN X24.here hx rfl (hb hby at_185) rfl rfl k)) ?_
    refine own_st (S' := T24.setTop (mkF m 189 #[.val (.int p0), .val (.int ((p0 &&& (2147483647 : Int32)) % (3 : Int32))), .val (.ref aP), .val (.ref b4), .val (.ref b12), .val (.ref aP), .val (.ref aP)] [])) (fun _ k => Jvm.RoadKit.acmp (g := (mkF m 186 #[.val (.int p0), .val (.int ((p0 &&& (2147483647 : Int32)) % (3 : Int32))), .val (.ref aP), .val (.ref b4), .val (.ref b12), .val (.ref aP), .val (.ref aP)] [(.ref aP), (.ref aP)])) X24 hx rfl rfl rfl (pc0 := 186) (pc' := 189) (same := true) rfl (hb hby at_186) rfl (decide_eq_true rfl) (by decide) (by decide) k) ?_
    refine own_st (S' := T24.setTop (mkF m 191 #[.val (.int p0), .val (.int ((p0 &&& (2147483647 : Int32)) % (3 : Int32))), .val (.ref aP), .val (.ref b4), .val (.ref b12), .val (.ref aP), .val (.ref aP)] [(.ref aP)])) (fun _ k => XS.aload X24.here hx rfl (hb hby at_189) rfl rfl k) ?_
    have XO25 : Old Z n0 h24 := (XO20.ext E24)
    have A27 : Exa Z h24 aP "com/example/rateloom/rateloom/repricing/RequestStatus" := (B13.ext XO25.2)
    obtain ⟨cq26, kq26, q26a, q26b, q26c⟩ := isOf hZ e24 A27
    obtain ⟨_, _, ⟨T26, L26, k26, n26⟩, -, X26, ⟨Lc26, hQ26, l26, y26, z26⟩, st26⟩ := X24.virtualBack hx (y := (⟨"com/example/rateloom/rateloom/repricing/RequestStatus", "label", "()Ljava/lang/String;"⟩ : MethodName)) (z := (⟨"com/example/rateloom/rateloom/repricing/RequestStatus", "label", "()Ljava/lang/String;"⟩ : MethodName)) hown (mvT hZ (hw _ own_w66)) (mvT hZ (hw _ own_w67)) (notFace_of_selects (args := #[]) (mvT hZ (hw _ own_w69))) (mvT hZ (hw _ own_w69)) (mvT hZ (hw _ own_w68)) (by decide) (backOf (W := 0) (own_rm_lab l Z a0 hw G1 S1 P1 aP aC aE aV lP lC lE kV B [] aP lP h24 n0 (Nat.le_trans Z0 (Nat.le_trans (Nat.le_trans (Nat.le_trans (Nat.le_trans (Nat.le_trans (Nat.le_trans (Nat.le_trans (Nat.le_trans (Nat.le_trans (Nat.le_trans (Nat.le_trans E4.1 (Nat.le_of_eq W5.size.symm)) (Nat.le_of_eq W6.size.symm)) (Nat.le_of_eq W7.size.symm)) (Nat.le_of_eq W8.size.symm)) (Nat.le_of_eq W9.size.symm)) (Nat.le_of_eq W10.size.symm)) (Nat.le_of_eq W11.size.symm)) E12.1) K17.1) E19.1) E24.1)) XO25 B4) hZ (hw _ own_w70) (hw _ own_w2) (by decide) (by decide)) q26a q26c (g := (mkF m 191 #[.val (.int p0), .val (.int ((p0 &&& (2147483647 : Int32)) % (3 : Int32))), .val (.ref aP), .val (.ref b4), .val (.ref b12), .val (.ref aP), .val (.ref aP)] [(.ref aP)])) rfl (by rw [hml]; rfl) (Steps.refl _) (argsL := []) (rest := []) (lenOf own_pd4 rfl) rfl (by show 2 * 0 + _ ≤ _; exact Nat.le_of_eq rfl) (hb hby at_191) (fun _ _ => ⟨rfl, e24, (by decide : 5 + 0 ≤ _), (by decide : 24 + 0 ≤ _)⟩)
    dsimp only [Pt.U, Pt.locs, Pt.cells, Pt.slots] at X26 l26 y26 z26 st26 hQ26
    subst l26 y26 z26
    obtain ⟨rfl, M26, e26⟩ := hQ26
    have N26 := Fr.app N24 M26
    refine own_tr (S' := T26.setTop (mkF m 194 #[.val (.int p0), .val (.int ((p0 &&& (2147483647 : Int32)) % (3 : Int32))), .val (.ref aP), .val (.ref b4), .val (.ref b12), .val (.ref aP), .val (.ref aP)] [(.ref lP)])) st26 ?_
    refine own_st (S' := T26.setTop (mkF m 196 #[.val (.int p0), .val (.int ((p0 &&& (2147483647 : Int32)) % (3 : Int32))), .val (.ref aP), .val (.ref b4), .val (.ref b12), .val (.ref aP), .val (.ref aP)] [(.ref b12), (.ref lP)])) (fun _ k => XS.aload X26.here hx rfl (hb hby at_194) rfl rfl k) ?_
    have G28 : own_Str Z h24 lP own_csP := (B7.ext XO25.2)
    have XE29 : Ext h17 h24 := (own_xt E19 E24)
    have G30 : own_Str Z h24 b12 own_csP := (Y17.ext XE29)
    have S31 : Sta Z h24 "java/lang/String" "COMPACT_STRINGS" "Z" (.int G1) := (S1.ext XO25.2)
    obtain ⟨cq32, kq32, q32a, q32b, q32c⟩ := isOf hZ e26 G28.exa
    obtain ⟨_, _, ⟨T32, L32, k32, n32⟩, -, X32, ⟨Lc32, hQ32, l32, y32, z32⟩, st32⟩ := X26.virtualBack hx (y := (⟨"java/lang/String", "equals", "(Ljava/lang/Object;)Z"⟩ : MethodName)) (z := (⟨"java/lang/String", "equals", "(Ljava/lang/Object;)Z"⟩ : MethodName)) hown (mvT hZ (hw _ own_w71)) (mvT hZ (hw _ own_w57)) (notFace_of_selects (args := #[]) (mvT hZ (hw _ own_w59))) (mvT hZ (hw _ own_w59)) (mvT hZ (hw _ own_w58)) (by decide) (own_eqB (W := 0) hZ hw G28 G30 S31 P1 (by decide) (by decide)) q32a q32c (g := (mkF m 196 #[.val (.int p0), .val (.int ((p0 &&& (2147483647 : Int32)) % (3 : Int32))), .val (.ref aP), .val (.ref b4), .val (.ref b12), .val (.ref aP), .val (.ref aP)] [(.ref b12), (.ref lP)])) rfl (by rw [hml]; rfl) (Steps.refl _) (argsL := [(.ref b12)]) (rest := []) (lenOf own_pd1 rfl) rfl (by show 2 * 0 + _ ≤ _; exact Nat.le_of_eq rfl) (hb hby at_196) (fun _ _ => ⟨rfl, e26, (by decide : 5 + 0 ≤ _), (by decide : 24 + 0 ≤ _)⟩)
    dsimp only [Pt.U, Pt.locs, Pt.cells, Pt.slots] at X32 l32 y32 z32 st32 hQ32
    subst l32 y32 z32
    obtain ⟨hQ32, rfl, e32⟩ := hQ32
    rw [List.append_nil] at X32
    obtain ⟨rfl, -⟩ := own_pickY hQ32 rfl
    refine own_tr (S' := T32.setTop (mkF m 199 #[.val (.int p0), .val (.int ((p0 &&& (2147483647 : Int32)) % (3 : Int32))), .val (.ref aP), .val (.ref b4), .val (.ref b12), .val (.ref aP), .val (.ref aP)] [(.int (1 : Int32))])) st32 ?_
    refine own_st (S' := T32.setTop (mkF m 207 #[.val (.int p0), .val (.int ((p0 &&& (2147483647 : Int32)) % (3 : Int32))), .val (.ref aP), .val (.ref b4), .val (.ref b12), .val (.ref aP), .val (.ref aP)] [(.int (1 : Int32))])) (fun _ k => XS.ifNo X32.here hx rfl (hb hby at_199) rfl (by decide) (XS.iconst X32.here hx rfl (hb hby at_202) (XS.goto X32.here hx rfl (pc0 := 203) (pc' := 207) rfl (hb hby at_203) (by decide) (by decide) k))) ?_
    refine own_ret X32 hx Bd.returns hlk rfl (Or.inl ⟨rfl, (by simp), _, rfl⟩) (hb hby at_207) (by decide) (by decide) ?_
    rw [e32]
    exact ⟨rfl, N26⟩
  · refine own_st (S' := s₁.setTop (mkF m 61 #[.val (.int p0), .val (.int ((p0 &&& (2147483647 : Int32)) % (3 : Int32))), .unset, .unset, .unset, .unset, .unset] [(.int (1 : Int32)), (.int ((p0 &&& (2147483647 : Int32)) % (3 : Int32)))])) (fun _ k => XS.ifYes X0.here hx rfl (pc0 := 8) (pc' := 59) rfl (hb hby at_8) rfl ((if0 _ _).trans (feq hc1).2) (by decide) (by decide) (XS.iloadN X0.here hx rfl (hb hby at_59) rfl (XS.iconst X0.here hx rfl (hb hby at_60) k))) ?_
    by_cases hc33 : ((p0 &&& (2147483647 : Int32)) % (3 : Int32)) = (1 : Int32)
    · refine own_st (S' := s₁.setTop (mkF m 64 #[.val (.int p0), .val (.int ((p0 &&& (2147483647 : Int32)) % (3 : Int32))), .unset, .unset, .unset, .unset, .unset] [])) (fun _ k => XS.icmpNo X0.here hx rfl (hb hby at_61) rfl (teq hc33).2 k) ?_
      have S34 : Sta Z h0 "com/example/rateloom/rateloom/repricing/RequestStatus" "COMPLETE" "Lcom/example/rateloom/rateloom/repricing/RequestStatus;" (.ref aC) := (B11.ext XO.2)
      obtain ⟨T35, X35, e35, st35⟩ := getS2 X0 hx hZ hown (host := "") (Or.inl (hw _ own_w73)) Via.refl e0 S34 (g := (mkF m 64 #[.val (.int p0), .val (.int ((p0 &&& (2147483647 : Int32)) % (3 : Int32))), .unset, .unset, .unset, .unset, .unset] [])) rfl (hb hby at_64)
      refine own_st (S' := T35.setTop (mkF m 67 #[.val (.int p0), .val (.int ((p0 &&& (2147483647 : Int32)) % (3 : Int32))), .unset, .unset, .unset, .unset, .unset] [(.ref aC)])) st35 ?_
      refine own_st (S' := T35.setTop (mkF m 70 #[.val (.int p0), .val (.int ((p0 &&& (2147483647 : Int32)) % (3 : Int32))), .val (.ref aC), .unset, .unset, .unset, .unset] [(.int (8 : Int32))])) (fun _ k => XS.astoreN X35.here hx rfl (hb hby at_67) rfl rfl (l' := #[.val (.int p0), .val (.int ((p0 &&& (2147483647 : Int32)) % (3 : Int32))), .val (.ref aC), .unset, .unset, .unset, .unset]) rfl (XS.bipush X35.here hx rfl (hb hby at_68) k)) ?_
      obtain ⟨T36, h36, k36, X36, e36, E36, A36, AE36, st36⟩ := newPE X35 hx hZ (aty := .char) (hw _ own_w4) e35 (g := (mkF m 70 #[.val (.int p0), .val (.int ((p0 &&& (2147483647 : Int32)) % (3 : Int32))), .val (.ref aC), .unset, .unset, .unset, .unset] [(.int (8 : Int32))])) rfl (hb hby at_70) rfl (by decide) (cap := 8) (by decide) (by decide) (by decide) (by decide) (ad := "[C") (by decide)
      obtain ⟨b36, g36⟩ : ∃ z, z = h0.size := ⟨_, rfl⟩
      rw [← g36] at A36 AE36 st36
      have V36 : Arv Z h36 b36 k36 .char (8 : Int32) [(.int (0 : Int32)), (.int (0 : Int32)), (.int (0 : Int32)), (.int (0 : Int32)), (.int (0 : Int32)), (.int (0 : Int32)), (.int (0 : Int32)), (.int (0 : Int32))] (.int (0 : Int32)) := (Arv.new A36 (by decide)).pad (pad_rep [] (.int (0 : Int32)) 8)
      refine own_st (S' := T36.setTop (mkF m 72 #[.val (.int p0), .val (.int ((p0 &&& (2147483647 : Int32)) % (3 : Int32))), .val (.ref aC), .unset, .unset, .unset, .unset] [(.ref b36)])) st36 ?_
      refine own_st (S' := T36.setTop (mkF m 76 #[.val (.int p0), .val (.int ((p0 &&& (2147483647 : Int32)) % (3 : Int32))), .val (.ref aC), .unset, .unset, .unset, .unset] [(.int (67 : Int32)), (.int (0 : Int32)), (.ref b36), (.ref b36)])) (fun _ k => XS.dup X36.here hx rfl (hb hby at_72) rfl rfl (XS.iconst X36.here hx rfl (hb hby at_73) (XS.bipush X36.here hx rfl (hb hby at_74) k))) ?_
      obtain ⟨c37, A37, q37, S37, M37, H37, U37⟩ := id V36
      obtain ⟨T37, h37, X37, e37, W37, st37⟩ := stC X36 hx hZ e36 A37 (j := (0 : Int32)) (inb_of S37 ⟨by decide, by decide⟩) (g := (mkF m 76 #[.val (.int p0), .val (.int ((p0 &&& (2147483647 : Int32)) % (3 : Int32))), .val (.ref aC), .unset, .unset, .unset, .unset] [(.int (67 : Int32)), (.int (0 : Int32)), (.ref b36), (.ref b36)])) rfl rfl (hb hby at_76)
      have N37 := Fr.snoc X37 N0 (Nat.le_trans Z0 (Nat.le_of_eq g36.symm))
      have V37 : Arv Z h37 b36 k36 .char (8 : Int32) [(.int (67 : Int32)), (.int (0 : Int32)), (.int (0 : Int32)), (.int (0 : Int32)), (.int (0 : Int32)), (.int (0 : Int32)), (.int (0 : Int32)), (.int (0 : Int32))] (.int (0 : Int32)) := Arv.set A37 q37 S37 M37 H37 U37 (fits_nar_char _) W37 0 rfl (Nat.le_of_ble_eq_true rfl)
      refine own_st (S' := T37.setTop (mkF m 77 #[.val (.int p0), .val (.int ((p0 &&& (2147483647 : Int32)) % (3 : Int32))), .val (.ref aC), .unset, .unset, .unset, .unset] [(.ref b36)])) st37 ?_
      refine own_st (S' := T37.setTop (mkF m 81 #[.val (.int p0), .val (.int ((p0 &&& (2147483647 : Int32)) % (3 : Int32))), .val (.ref aC), .unset, .unset, .unset, .unset] [(.int (111 : Int32)), (.int (1 : Int32)), (.ref b36), (.ref b36)])) (fun _ k => XS.dup X37.here hx rfl (hb hby at_77) rfl rfl (XS.iconst X37.here hx rfl (hb hby at_78) (XS.bipush X37.here hx rfl (hb hby at_79) k))) ?_
      obtain ⟨c38, A38, q38, S38, M38, H38, U38⟩ := id V37
      obtain ⟨T38, h38, X38, e38, W38, st38⟩ := stC X37 hx hZ e37 A38 (j := (1 : Int32)) (inb_of S38 ⟨by decide, by decide⟩) (g := (mkF m 81 #[.val (.int p0), .val (.int ((p0 &&& (2147483647 : Int32)) % (3 : Int32))), .val (.ref aC), .unset, .unset, .unset, .unset] [(.int (111 : Int32)), (.int (1 : Int32)), (.ref b36), (.ref b36)])) rfl rfl (hb hby at_81)
      have N38 := Fr.snoc X38 N37 (Nat.le_trans Z0 (Nat.le_of_eq g36.symm))
      have V38 : Arv Z h38 b36 k36 .char (8 : Int32) [(.int (67 : Int32)), (.int (111 : Int32)), (.int (0 : Int32)), (.int (0 : Int32)), (.int (0 : Int32)), (.int (0 : Int32)), (.int (0 : Int32)), (.int (0 : Int32))] (.int (0 : Int32)) := Arv.set A38 q38 S38 M38 H38 U38 (fits_nar_char _) W38 1 rfl (Nat.le_of_ble_eq_true rfl)
      refine own_st (S' := T38.setTop (mkF m 82 #[.val (.int p0), .val (.int ((p0 &&& (2147483647 : Int32)) % (3 : Int32))), .val (.ref aC), .unset, .unset, .unset, .unset] [(.ref b36)])) st38 ?_
      refine own_st (S' := T38.setTop (mkF m 86 #[.val (.int p0), .val (.int ((p0 &&& (2147483647 : Int32)) % (3 : Int32))), .val (.ref aC), .unset, .unset, .unset, .unset] [(.int (109 : Int32)), (.int (2 : Int32)), (.ref b36), (.ref b36)])) (fun _ k => XS.dup X38.here hx rfl (hb hby at_82) rfl rfl (XS.iconst X38.here hx rfl (hb hby at_83) (XS.bipush X38.here hx rfl (hb hby at_84) k))) ?_
      obtain ⟨c39, A39, q39, S39, M39, H39, U39⟩ := id V38
      obtain ⟨T39, h39, X39, e39, W39, st39⟩ := stC X38 hx hZ e38 A39 (j := (2 : Int32)) (inb_of S39 ⟨by decide, by decide⟩) (g := (mkF m 86 #[.val (.int p0), .val (.int ((p0 &&& (2147483647 : Int32)) % (3 : Int32))), .val (.ref aC), .unset, .unset, .unset, .unset] [(.int (109 : Int32)), (.int (2 : Int32)), (.ref b36), (.ref b36)])) rfl rfl (hb hby at_86)
      have N39 := Fr.snoc X39 N38 (Nat.le_trans Z0 (Nat.le_of_eq g36.symm))
      have V39 : Arv Z h39 b36 k36 .char (8 : Int32) [(.int (67 : Int32)), (.int (111 : Int32)), (.int (109 : Int32)), (.int (0 : Int32)), (.int (0 : Int32)), (.int (0 : Int32)), (.int (0 : Int32)), (.int (0 : Int32))] (.int (0 : Int32)) := Arv.set A39 q39 S39 M39 H39 U39 (fits_nar_char _) W39 2 rfl (Nat.le_of_ble_eq_true rfl)
      refine own_st (S' := T39.setTop (mkF m 87 #[.val (.int p0), .val (.int ((p0 &&& (2147483647 : Int32)) % (3 : Int32))), .val (.ref aC), .unset, .unset, .unset, .unset] [(.ref b36)])) st39 ?_
      refine own_st (S' := T39.setTop (mkF m 91 #[.val (.int p0), .val (.int ((p0 &&& (2147483647 : Int32)) % (3 : Int32))), .val (.ref aC), .unset, .unset, .unset, .unset] [(.int (112 : Int32)), (.int (3 : Int32)), (.ref b36), (.ref b36)])) (fun _ k => XS.dup X39.here hx rfl (hb hby at_87) rfl rfl (XS.iconst X39.here hx rfl (hb hby at_88) (XS.bipush X39.here hx rfl (hb hby at_89) k))) ?_
      obtain ⟨c40, A40, q40, S40, M40, H40, U40⟩ := id V39
      obtain ⟨T40, h40, X40, e40, W40, st40⟩ := stC X39 hx hZ e39 A40 (j := (3 : Int32)) (inb_of S40 ⟨by decide, by decide⟩) (g := (mkF m 91 #[.val (.int p0), .val (.int ((p0 &&& (2147483647 : Int32)) % (3 : Int32))), .val (.ref aC), .unset, .unset, .unset, .unset] [(.int (112 : Int32)), (.int (3 : Int32)), (.ref b36), (.ref b36)])) rfl rfl (hb hby at_91)
      have N40 := Fr.snoc X40 N39 (Nat.le_trans Z0 (Nat.le_of_eq g36.symm))
      have V40 : Arv Z h40 b36 k36 .char (8 : Int32) [(.int (67 : Int32)), (.int (111 : Int32)), (.int (109 : Int32)), (.int (112 : Int32)), (.int (0 : Int32)), (.int (0 : Int32)), (.int (0 : Int32)), (.int (0 : Int32))] (.int (0 : Int32)) := Arv.set A40 q40 S40 M40 H40 U40 (fits_nar_char _) W40 3 rfl (Nat.le_of_ble_eq_true rfl)
      refine own_st (S' := T40.setTop (mkF m 92 #[.val (.int p0), .val (.int ((p0 &&& (2147483647 : Int32)) % (3 : Int32))), .val (.ref aC), .unset, .unset, .unset, .unset] [(.ref b36)])) st40 ?_
      refine own_st (S' := T40.setTop (mkF m 96 #[.val (.int p0), .val (.int ((p0 &&& (2147483647 : Int32)) % (3 : Int32))), .val (.ref aC), .unset, .unset, .unset, .unset] [(.int (108 : Int32)), (.int (4 : Int32)), (.ref b36), (.ref b36)])) (fun _ k => XS.dup X40.here hx rfl (hb hby at_92) rfl rfl (XS.iconst X40.here hx rfl (hb hby at_93) (XS.bipush X40.here hx rfl (hb hby at_94) k))) ?_
      obtain ⟨c41, A41, q41, S41, M41, H41, U41⟩ := id V40
      obtain ⟨T41, h41, X41, e41, W41, st41⟩ := stC X40 hx hZ e40 A41 (j := (4 : Int32)) (inb_of S41 ⟨by decide, by decide⟩) (g := (mkF m 96 #[.val (.int p0), .val (.int ((p0 &&& (2147483647 : Int32)) % (3 : Int32))), .val (.ref aC), .unset, .unset, .unset, .unset] [(.int (108 : Int32)), (.int (4 : Int32)), (.ref b36), (.ref b36)])) rfl rfl (hb hby at_96)
      have N41 := Fr.snoc X41 N40 (Nat.le_trans Z0 (Nat.le_of_eq g36.symm))
      have V41 : Arv Z h41 b36 k36 .char (8 : Int32) [(.int (67 : Int32)), (.int (111 : Int32)), (.int (109 : Int32)), (.int (112 : Int32)), (.int (108 : Int32)), (.int (0 : Int32)), (.int (0 : Int32)), (.int (0 : Int32))] (.int (0 : Int32)) := Arv.set A41 q41 S41 M41 H41 U41 (fits_nar_char _) W41 4 rfl (Nat.le_of_ble_eq_true rfl)
      refine own_st (S' := T41.setTop (mkF m 97 #[.val (.int p0), .val (.int ((p0 &&& (2147483647 : Int32)) % (3 : Int32))), .val (.ref aC), .unset, .unset, .unset, .unset] [(.ref b36)])) st41 ?_
      refine own_st (S' := T41.setTop (mkF m 101 #[.val (.int p0), .val (.int ((p0 &&& (2147483647 : Int32)) % (3 : Int32))), .val (.ref aC), .unset, .unset, .unset, .unset] [(.int (101 : Int32)), (.int (5 : Int32)), (.ref b36), (.ref b36)])) (fun _ k => XS.dup X41.here hx rfl (hb hby at_97) rfl rfl (XS.iconst X41.here hx rfl (hb hby at_98) (XS.bipush X41.here hx rfl (hb hby at_99) k))) ?_
      obtain ⟨c42, A42, q42, S42, M42, H42, U42⟩ := id V41
      obtain ⟨T42, h42, X42, e42, W42, st42⟩ := stC X41 hx hZ e41 A42 (j := (5 : Int32)) (inb_of S42 ⟨by decide, by decide⟩) (g := (mkF m 101 #[.val (.int p0), .val (.int ((p0 &&& (2147483647 : Int32)) % (3 : Int32))), .val (.ref aC), .unset, .unset, .unset, .unset] [(.int (101 : Int32)), (.int (5 : Int32)), (.ref b36), (.ref b36)])) rfl rfl (hb hby at_101)
      have N42 := Fr.snoc X42 N41 (Nat.le_trans Z0 (Nat.le_of_eq g36.symm))
      have V42 : Arv Z h42 b36 k36 .char (8 : Int32) [(.int (67 : Int32)), (.int (111 : Int32)), (.int (109 : Int32)), (.int (112 : Int32)), (.int (108 : Int32)), (.int (101 : Int32)), (.int (0 : Int32)), (.int (0 : Int32))] (.int (0 : Int32)) := Arv.set A42 q42 S42 M42 H42 U42 (fits_nar_char _) W42 5 rfl (Nat.le_of_ble_eq_true rfl)
      refine own_st (S' := T42.setTop (mkF m 102 #[.val (.int p0), .val (.int ((p0 &&& (2147483647 : Int32)) % (3 : Int32))), .val (.ref aC), .unset, .unset, .unset, .unset] [(.ref b36)])) st42 ?_
      refine own_st (S' := T42.setTop (mkF m 107 #[.val (.int p0), .val (.int ((p0 &&& (2147483647 : Int32)) % (3 : Int32))), .val (.ref aC), .unset, .unset, .unset, .unset] [(.int (116 : Int32)), (.int (6 : Int32)), (.ref b36), (.ref b36)])) (fun _ k => XS.dup X42.here hx rfl (hb hby at_102) rfl rfl (XS.bipush X42.here hx rfl (hb hby at_103) (XS.bipush X42.here hx rfl (hb hby at_105) k))) ?_
      obtain ⟨c43, A43, q43, S43, M43, H43, U43⟩ := id V42
      obtain ⟨T43, h43, X43, e43, W43, st43⟩ := stC X42 hx hZ e42 A43 (j := (6 : Int32)) (inb_of S43 ⟨by decide, by decide⟩) (g := (mkF m 107 #[.val (.int p0), .val (.int ((p0 &&& (2147483647 : Int32)) % (3 : Int32))), .val (.ref aC), .unset, .unset, .unset, .unset] [(.int (116 : Int32)), (.int (6 : Int32)), (.ref b36), (.ref b36)])) rfl rfl (hb hby at_107)
      have N43 := Fr.snoc X43 N42 (Nat.le_trans Z0 (Nat.le_of_eq g36.symm))
      have V43 : Arv Z h43 b36 k36 .char (8 : Int32) [(.int (67 : Int32)), (.int (111 : Int32)), (.int (109 : Int32)), (.int (112 : Int32)), (.int (108 : Int32)), (.int (101 : Int32)), (.int (116 : Int32)), (.int (0 : Int32))] (.int (0 : Int32)) := Arv.set A43 q43 S43 M43 H43 U43 (fits_nar_char _) W43 6 rfl (Nat.le_of_ble_eq_true rfl)
      refine own_st (S' := T43.setTop (mkF m 108 #[.val (.int p0), .val (.int ((p0 &&& (2147483647 : Int32)) % (3 : Int32))), .val (.ref aC), .unset, .unset, .unset, .unset] [(.ref b36)])) st43 ?_
      refine own_st (S' := T43.setTop (mkF m 113 #[.val (.int p0), .val (.int ((p0 &&& (2147483647 : Int32)) % (3 : Int32))), .val (.ref aC), .unset, .unset, .unset, .unset] [(.int (101 : Int32)), (.int (7 : Int32)), (.ref b36), (.ref b36)])) (fun _ k => XS.dup X43.here hx rfl (hb hby at_108) rfl rfl (XS.bipush X43.here hx rfl (hb hby at_109) (XS.bipush X43.here hx rfl (hb hby at_111) k))) ?_
      obtain ⟨c44, A44, q44, S44, M44, H44, U44⟩ := id V43
      obtain ⟨T44, h44, X44, e44, W44, st44⟩ := stC X43 hx hZ e43 A44 (j := (7 : Int32)) (inb_of S44 ⟨by decide, by decide⟩) (g := (mkF m 113 #[.val (.int p0), .val (.int ((p0 &&& (2147483647 : Int32)) % (3 : Int32))), .val (.ref aC), .unset, .unset, .unset, .unset] [(.int (101 : Int32)), (.int (7 : Int32)), (.ref b36), (.ref b36)])) rfl rfl (hb hby at_113)
      have N44 := Fr.snoc X44 N43 (Nat.le_trans Z0 (Nat.le_of_eq g36.symm))
      have V44 : Arv Z h44 b36 k36 .char (8 : Int32) [(.int (67 : Int32)), (.int (111 : Int32)), (.int (109 : Int32)), (.int (112 : Int32)), (.int (108 : Int32)), (.int (101 : Int32)), (.int (116 : Int32)), (.int (101 : Int32))] (.int (0 : Int32)) := Arv.set A44 q44 S44 M44 H44 U44 (fits_nar_char _) W44 7 rfl (Nat.le_of_ble_eq_true rfl)
      refine own_st (S' := T44.setTop (mkF m 114 #[.val (.int p0), .val (.int ((p0 &&& (2147483647 : Int32)) % (3 : Int32))), .val (.ref aC), .unset, .unset, .unset, .unset] [(.ref b36)])) st44 ?_
      refine own_st (S' := T44.setTop (mkF m 151 #[.val (.int p0), .val (.int ((p0 &&& (2147483647 : Int32)) % (3 : Int32))), .val (.ref aC), .val (.ref b36), .unset, .unset, .unset] [])) (fun _ k => XS.astoreN X44.here hx rfl (hb hby at_114) rfl rfl (l' := #[.val (.int p0), .val (.int ((p0 &&& (2147483647 : Int32)) % (3 : Int32))), .val (.ref aC), .val (.ref b36), .unset, .unset, .unset]) rfl (XS.goto X44.here hx rfl (pc0 := 115) (pc' := 151) rfl (hb hby at_115) (by decide) (by decide) k)) ?_
      obtain ⟨T45, h45, X45, e45, E45, A45, D45, -, st45⟩ := newO X44 hx hZ hown (hw _ own_w5) (hw _ own_w6) (hw _ own_w7) e44 (g := (mkF m 151 #[.val (.int p0), .val (.int ((p0 &&& (2147483647 : Int32)) % (3 : Int32))), .val (.ref aC), .val (.ref b36), .unset, .unset, .unset] [])) rfl (hb hby at_151) (by decide) (by decide)
      obtain ⟨b45, g45⟩ : ∃ z, z = h44.size := ⟨_, rfl⟩
      rw [← g45] at A45 D45 st45
      refine own_st (S' := T45.setTop (mkF m 154 #[.val (.int p0), .val (.int ((p0 &&& (2147483647 : Int32)) % (3 : Int32))), .val (.ref aC), .val (.ref b36), .unset, .unset, .unset] [(.ref b45)])) st45 ?_
      refine own_st (S' := T45.setTop (mkF m 156 #[.val (.int p0), .val (.int ((p0 &&& (2147483647 : Int32)) % (3 : Int32))), .val (.ref aC), .val (.ref b36), .unset, .unset, .unset] [(.ref b36), (.ref b45), (.ref b45)])) (fun _ k => XS.dup X45.here hx rfl (hb hby at_154) rfl rfl (XS.aloadN X45.here hx rfl (hb hby at_155) rfl rfl k)) ?_
      have V46 : Arv Z h45 b36 k36 .char (8 : Int32) [(.int (67 : Int32)), (.int (111 : Int32)), (.int (109 : Int32)), (.int (112 : Int32)), (.int (108 : Int32)), (.int (101 : Int32)), (.int (116 : Int32)), (.int (101 : Int32))] (.int (0 : Int32)) := (V44.ext E45)
      have XE47 : Ext h0 h45 := (own_xt (own_xw (own_xw (own_xw (own_xw (own_xw (own_xw (own_xw (own_xw E36 W37 (Nat.le_of_eq g36.symm)) W38 (Nat.le_of_eq g36.symm)) W39 (Nat.le_of_eq g36.symm)) W40 (Nat.le_of_eq g36.symm)) W41 (Nat.le_of_eq g36.symm)) W42 (Nat.le_of_eq g36.symm)) W43 (Nat.le_of_eq g36.symm)) W44 (Nat.le_of_eq g36.symm)) E45)
      have XO48 : Old Z n0 h45 := (XO.ext XE47)
      have S49 : Sta Z h45 "java/lang/String" "COMPACT_STRINGS" "Z" (.int G1) := (S1.ext XO48.2)
      obtain ⟨_, _, ⟨T50, L50, k50, n50⟩, -, X50, ⟨Lc50, hQ50, l50, y50, z50⟩, st50⟩ := X45.specialBack hx (y := (⟨"java/lang/String", "<init>", "([C)V"⟩ : MethodName)) rfl hown (mvT hZ (hw _ own_w8)) (mvT hZ (hw _ own_w9)) (mvT hZ (hw _ own_w10)) (by decide) (own_newB (W := 1) hZ hw (cs := own_csC) (n := 8) (n0 := n0) (Nat.le_trans Z0 (Nat.le_trans (Nat.le_trans (Nat.le_trans (Nat.le_trans (Nat.le_trans (Nat.le_trans (Nat.le_trans (Nat.le_trans (Nat.le_trans E36.1 (Nat.le_of_eq W37.size.symm)) (Nat.le_of_eq W38.size.symm)) (Nat.le_of_eq W39.size.symm)) (Nat.le_of_eq W40.size.symm)) (Nat.le_of_eq W41.size.symm)) (Nat.le_of_eq W42.size.symm)) (Nat.le_of_eq W43.size.symm)) (Nat.le_of_eq W44.size.symm)) (Nat.le_of_eq g45.symm))) (Nat.le_trans Z0 (Nat.le_trans (Nat.le_trans (Nat.le_trans (Nat.le_trans (Nat.le_trans (Nat.le_trans (Nat.le_trans (Nat.le_trans (Nat.le_trans E36.1 (Nat.le_of_eq W37.size.symm)) (Nat.le_of_eq W38.size.symm)) (Nat.le_of_eq W39.size.symm)) (Nat.le_of_eq W40.size.symm)) (Nat.le_of_eq W41.size.symm)) (Nat.le_of_eq W42.size.symm)) (Nat.le_of_eq W43.size.symm)) (Nat.le_of_eq W44.size.symm)) E45.1)) A45 (D45 (Or.inr (hw _ own_w33)) (ty := (.array .byte)) (by decide)) (D45 (Or.inr (hw _ own_w31)) (ty := .byte) (by decide)) V46 S49 P1 rfl rfl (by decide) (by decide) own_hpC (by decide) (by decide)) (g := (mkF m 156 #[.val (.int p0), .val (.int ((p0 &&& (2147483647 : Int32)) % (3 : Int32))), .val (.ref aC), .val (.ref b36), .unset, .unset, .unset] [(.ref b36), (.ref b45), (.ref b45)])) rfl (by rw [hml]; rfl) (Steps.refl _) (a := b45) (argsL := [(.ref b36)]) (rest := [(.ref b45)]) (lenOf own_pd2 rfl) rfl (by show 2 * 0 + _ ≤ _; exact Nat.le_of_eq rfl) (hb hby at_156) (fun _ _ => ⟨rfl, e45, (by decide : 2 + 1 ≤ _), (by decide : 12 + 8 ≤ _)⟩)
      dsimp only [Pt.U, Pt.locs, Pt.cells, Pt.slots] at X50 l50 y50 z50 st50 hQ50
      subst l50 y50 z50
      obtain ⟨rfl, M50, K50, Y50⟩ := hQ50
      have N50 := Fr.app N44 M50
      obtain ⟨h50, e50⟩ : ∃ z, T50.heap = z := ⟨_, rfl⟩
      rw [e50] at K50 Y50
      refine own_tr (S' := T50.setTop (mkF m 159 #[.val (.int p0), .val (.int ((p0 &&& (2147483647 : Int32)) % (3 : Int32))), .val (.ref aC), .val (.ref b36), .unset, .unset, .unset] [(.ref b45)])) st50 ?_
      refine own_st (S' := T50.setTop (mkF m 163 #[.val (.int p0), .val (.int ((p0 &&& (2147483647 : Int32)) % (3 : Int32))), .val (.ref aC), .val (.ref b36), .val (.ref b45), .unset, .unset] [(.ref b45)])) (fun _ k => XS.astore X50.here hx rfl (hb hby at_159) rfl rfl (l' := #[.val (.int p0), .val (.int ((p0 &&& (2147483647 : Int32)) % (3 : Int32))), .val (.ref aC), .val (.ref b36), .val (.ref b45), .unset, .unset]) rfl (XS.aload X50.here hx rfl (hb hby at_161) rfl rfl k)) ?_
      have XO51 : Old Z n0 h50 := (XO48.keep K50 (allS (Nat.le_trans Z0 (Nat.le_trans (Nat.le_trans (Nat.le_trans (Nat.le_trans (Nat.le_trans (Nat.le_trans (Nat.le_trans (Nat.le_trans (Nat.le_trans E36.1 (Nat.le_of_eq W37.size.symm)) (Nat.le_of_eq W38.size.symm)) (Nat.le_of_eq W39.size.symm)) (Nat.le_of_eq W40.size.symm)) (Nat.le_of_eq W41.size.symm)) (Nat.le_of_eq W42.size.symm)) (Nat.le_of_eq W43.size.symm)) (Nat.le_of_eq W44.size.symm)) (Nat.le_of_eq g45.symm))) all0))
      obtain ⟨_, _, ⟨T52, L52, k52, n52⟩, -, X52, ⟨Lc52, hQ52, l52, y52, z52⟩, st52⟩ := Jvm.LawKit.callS X50 hx (y := (⟨"com/example/rateloom/rateloom/repricing/RequestStatus", "ofLabel", "(Ljava/lang/String;)Lcom/example/rateloom/rateloom/repricing/RequestStatus;"⟩ : MethodName)) hown (mvT hZ (hw _ own_w34)) (mvT hZ (hw _ own_w35)) (mvT hZ (hw _ own_w2)) (mvT hZ (hw _ own_w36)) (by decide) (backOf (W := 0) (own_rm_of l Z a0 hw G1 S1 P1 aP aC aE aV lP lC lE kV B [] b45 own_csC h50 n0 (Nat.le_trans Z0 (Nat.le_trans (Nat.le_trans (Nat.le_trans (Nat.le_trans (Nat.le_trans (Nat.le_trans (Nat.le_trans (Nat.le_trans (Nat.le_trans (Nat.le_trans E36.1 (Nat.le_of_eq W37.size.symm)) (Nat.le_of_eq W38.size.symm)) (Nat.le_of_eq W39.size.symm)) (Nat.le_of_eq W40.size.symm)) (Nat.le_of_eq W41.size.symm)) (Nat.le_of_eq W42.size.symm)) (Nat.le_of_eq W43.size.symm)) (Nat.le_of_eq W44.size.symm)) E45.1) K50.1)) XO51 Y50 (Or.inr (Or.inl rfl))) hZ (hw _ own_w36) (hw _ own_w2) (by decide) (by decide)) (g := (mkF m 163 #[.val (.int p0), .val (.int ((p0 &&& (2147483647 : Int32)) % (3 : Int32))), .val (.ref aC), .val (.ref b36), .val (.ref b45), .unset, .unset] [(.ref b45)])) rfl (by rw [hml]; rfl) (argsL := [(.ref b45)]) (rest := []) (lenOf own_pd3 rfl) rfl (by show 2 * 0 + _ ≤ _; exact Nat.le_of_eq rfl) (hb hby at_163) (fun _ _ => ⟨rfl, e50, (by decide : 3 + 1 ≤ _), (by decide : 20 + 3 ≤ _)⟩)
      dsimp only [Pt.U, Pt.locs, Pt.cells, Pt.slots] at X52 l52 y52 z52 st52 hQ52
      subst l52 y52 z52
      obtain ⟨r52, rfl, M52, E52, o52⟩ := hQ52
      have N52 := Fr.app N50 M52
      obtain ⟨h52, e52⟩ : ∃ z, T52.heap = z := ⟨_, rfl⟩
      rw [e52] at E52
      obtain rfl : aC = r52 := by
        rcases o52 with ⟨q, r⟩ | ⟨q, r⟩ | ⟨q, r⟩
        · exact absurd q (by decide)
        · exact r.symm
        · exact absurd q (by decide)
      refine own_st (S' := T52.setTop (mkF m 166 #[.val (.int p0), .val (.int ((p0 &&& (2147483647 : Int32)) % (3 : Int32))), .val (.ref aC), .val (.ref b36), .val (.ref b45), .unset, .unset] [(.ref aC)])) st52 ?_
      refine own_st (S' := T52.setTop (mkF m 169 #[.val (.int p0), .val (.int ((p0 &&& (2147483647 : Int32)) % (3 : Int32))), .val (.ref aC), .val (.ref b36), .val (.ref b45), .val (.ref aC), .unset] [(.ref aC)])) (fun _ k => XS.astore X52.here hx rfl (hb hby at_166) rfl rfl (l' := #[.val (.int p0), .val (.int ((p0 &&& (2147483647 : Int32)) % (3 : Int32))), .val (.ref aC), .val (.ref b36), .val (.ref b45), .val (.ref aC), .unset]) rfl (XS.aloadN X52.here hx rfl (hb hby at_168) rfl rfl k)) ?_
      have XO53 : Old Z n0 h52 := (XO51.ext E52)
      have A55 : Exa Z h52 aC "com/example/rateloom/rateloom/repricing/RequestStatus" := (B14.ext XO53.2)
      obtain ⟨cq54, kq54, q54a, q54b, q54c⟩ := isOf hZ e52 A55
      obtain ⟨_, _, ⟨T54, L54, k54, n54⟩, -, X54, ⟨Lc54, hQ54, l54, y54, z54⟩, st54⟩ := X52.virtualBack hx (y := (⟨"com/example/rateloom/rateloom/repricing/RequestStatus", "label", "()Ljava/lang/String;"⟩ : MethodName)) (z := (⟨"com/example/rateloom/rateloom/repricing/RequestStatus", "label", "()Ljava/lang/String;"⟩ : MethodName)) hown (mvT hZ (hw _ own_w66)) (mvT hZ (hw _ own_w67)) (notFace_of_selects (args := #[]) (mvT hZ (hw _ own_w69))) (mvT hZ (hw _ own_w69)) (mvT hZ (hw _ own_w68)) (by decide) (backOf (W := 0) (own_rm_lab l Z a0 hw G1 S1 P1 aP aC aE aV lP lC lE kV B [] aC lC h52 n0 (Nat.le_trans Z0 (Nat.le_trans (Nat.le_trans (Nat.le_trans (Nat.le_trans (Nat.le_trans (Nat.le_trans (Nat.le_trans (Nat.le_trans (Nat.le_trans (Nat.le_trans (Nat.le_trans E36.1 (Nat.le_of_eq W37.size.symm)) (Nat.le_of_eq W38.size.symm)) (Nat.le_of_eq W39.size.symm)) (Nat.le_of_eq W40.size.symm)) (Nat.le_of_eq W41.size.symm)) (Nat.le_of_eq W42.size.symm)) (Nat.le_of_eq W43.size.symm)) (Nat.le_of_eq W44.size.symm)) E45.1) K50.1) E52.1)) XO53 B5) hZ (hw _ own_w70) (hw _ own_w2) (by decide) (by decide)) q54a q54c (g := (mkF m 169 #[.val (.int p0), .val (.int ((p0 &&& (2147483647 : Int32)) % (3 : Int32))), .val (.ref aC), .val (.ref b36), .val (.ref b45), .val (.ref aC), .unset] [(.ref aC)])) rfl (by rw [hml]; rfl) (Steps.refl _) (argsL := []) (rest := []) (lenOf own_pd4 rfl) rfl (by show 2 * 0 + _ ≤ _; exact Nat.le_of_eq rfl) (hb hby at_169) (fun _ _ => ⟨rfl, e52, (by decide : 4 + 0 ≤ _), (by decide : 23 + 0 ≤ _)⟩)
      dsimp only [Pt.U, Pt.locs, Pt.cells, Pt.slots] at X54 l54 y54 z54 st54 hQ54
      subst l54 y54 z54
      obtain ⟨rfl, M54, e54⟩ := hQ54
      have N54 := Fr.app N52 M54
      refine own_tr (S' := T54.setTop (mkF m 172 #[.val (.int p0), .val (.int ((p0 &&& (2147483647 : Int32)) % (3 : Int32))), .val (.ref aC), .val (.ref b36), .val (.ref b45), .val (.ref aC), .unset] [(.ref lC)])) st54 ?_
      have G56 : own_Str Z h52 lC own_csC := (B8.ext XO53.2)
      obtain ⟨_, _, ⟨T57, L57, k57, n57⟩, -, X57, ⟨Lc57, hQ57, l57, y57, z57⟩, st57⟩ := Jvm.LawKit.callS X54 hx (y := (⟨"com/example/rateloom/rateloom/repricing/RequestStatus", "ofLabel", "(Ljava/lang/String;)Lcom/example/rateloom/rateloom/repricing/RequestStatus;"⟩ : MethodName)) hown (mvT hZ (hw _ own_w34)) (mvT hZ (hw _ own_w35)) (mvT hZ (hw _ own_w2)) (mvT hZ (hw _ own_w36)) (by decide) (backOf (W := 0) (own_rm_of l Z a0 hw G1 S1 P1 aP aC aE aV lP lC lE kV B [] lC own_csC h52 n0 (Nat.le_trans Z0 (Nat.le_trans (Nat.le_trans (Nat.le_trans (Nat.le_trans (Nat.le_trans (Nat.le_trans (Nat.le_trans (Nat.le_trans (Nat.le_trans (Nat.le_trans (Nat.le_trans E36.1 (Nat.le_of_eq W37.size.symm)) (Nat.le_of_eq W38.size.symm)) (Nat.le_of_eq W39.size.symm)) (Nat.le_of_eq W40.size.symm)) (Nat.le_of_eq W41.size.symm)) (Nat.le_of_eq W42.size.symm)) (Nat.le_of_eq W43.size.symm)) (Nat.le_of_eq W44.size.symm)) E45.1) K50.1) E52.1)) XO53 G56 (Or.inr (Or.inl rfl))) hZ (hw _ own_w36) (hw _ own_w2) (by decide) (by decide)) (g := (mkF m 172 #[.val (.int p0), .val (.int ((p0 &&& (2147483647 : Int32)) % (3 : Int32))), .val (.ref aC), .val (.ref b36), .val (.ref b45), .val (.ref aC), .unset] [(.ref lC)])) rfl (by rw [hml]; rfl) (argsL := [(.ref lC)]) (rest := []) (lenOf own_pd3 rfl) rfl (by show 2 * 0 + _ ≤ _; exact Nat.le_of_eq rfl) (hb hby at_172) (fun _ _ => ⟨rfl, e54, (by decide : 4 + 1 ≤ _), (by decide : 23 + 3 ≤ _)⟩)
      dsimp only [Pt.U, Pt.locs, Pt.cells, Pt.slots] at X57 l57 y57 z57 st57 hQ57
      subst l57 y57 z57
      obtain ⟨r57, rfl, M57, E57, o57⟩ := hQ57
      have N57 := Fr.app N54 M57
      obtain ⟨h57, e57⟩ : ∃ z, T57.heap = z := ⟨_, rfl⟩
      rw [e57] at E57
      obtain rfl : aC = r57 := by
        rcases o57 with ⟨q, r⟩ | ⟨q, r⟩ | ⟨q, r⟩
        · exact absurd q (by decide)
        · exact r.symm
        · exact absurd q (by decide)
      refine own_st (S' := T57.setTop (mkF m 175 #[.val (.int p0), .val (.int ((p0 &&& (2147483647 : Int32)) % (3 : Int32))), .val (.ref aC), .val (.ref b36), .val (.ref b45), .val (.ref aC), .unset] [(.ref aC)])) st57 ?_
      refine own_st (S' := T57.setTop (mkF m 180 #[.val (.int p0), .val (.int ((p0 &&& (2147483647 : Int32)) % (3 : Int32))), .val (.ref aC), .val (.ref b36), .val (.ref b45), .val (.ref aC), .val (.ref aC)] [(.ref aC), (.ref aC)])) (fun _ k => XS.astore X57.here hx rfl (hb hby at_175) rfl rfl (l' := #[.val (.int p0), .val (.int ((p0 &&& (2147483647 : Int32)) % (3 : Int32))), .val (.ref aC), .val (.ref b36), .val (.ref b45), .val (.ref aC), .val (.ref aC)]) rfl (XS.aload X57.here hx rfl (hb hby at_177) rfl rfl (XS.aloadN X57.here hx rfl (hb hby at_179) rfl rfl k))) ?_
      refine own_st (S' := T57.setTop (mkF m 183 #[.val (.int p0), .val (.int ((p0 &&& (2147483647 : Int32)) % (3 : Int32))), .val (.ref aC), .val (.ref b36), .val (.ref b45), .val (.ref aC), .val (.ref aC)] [])) (fun _ k => Jvm.RoadKit.acmp (g := (mkF m 180 #[.val (.int p0), .val (.int ((p0 &&& (2147483647 : Int32)) % (3 : Int32))), .val (.ref aC), .val (.ref b36), .val (.ref b45), .val (.ref aC), .val (.ref aC)] [(.ref aC), (.ref aC)])) X57 hx rfl rfl rfl (pc0 := 180) (pc' := 183) (same := true) rfl (hb hby at_180) rfl (decide_eq_true rfl) (by decide) (by decide) k) ?_
      refine own_st (S' := T57.setTop (mkF m 186 #[.val (.int p0), .val (.int ((p0 &&& (2147483647 : Int32)) % (3 : Int32))), .val (.ref aC), .val (.ref b36), .val (.ref b45), .val (.ref aC), .val (.ref aC)] [(.ref aC), (.ref aC)])) (fun _ k => XS.aload X57.here hx rfl (hb hby at_183) rfl rfl (XS.aloadN X57.here hx rfl (hb hby at_185) rfl rfl k)) ?_
      refine own_st (S' := T57.setTop (mkF m 189 #[.val (.int p0), .val (.int ((p0 &&& (2147483647 : Int32)) % (3 : Int32))), .val (.ref aC), .val (.ref b36), .val (.ref b45), .val (.ref aC), .val (.ref aC)] [])) (fun _ k => Jvm.RoadKit.acmp (g := (mkF m 186 #[.val (.int p0), .val (.int ((p0 &&& (2147483647 : Int32)) % (3 : Int32))), .val (.ref aC), .val (.ref b36), .val (.ref b45), .val (.ref aC), .val (.ref aC)] [(.ref aC), (.ref aC)])) X57 hx rfl rfl rfl (pc0 := 186) (pc' := 189) (same := true) rfl (hb hby at_186) rfl (decide_eq_true rfl) (by decide) (by decide) k) ?_
      refine own_st (S' := T57.setTop (mkF m 191 #[.val (.int p0), .val (.int ((p0 &&& (2147483647 : Int32)) % (3 : Int32))), .val (.ref aC), .val (.ref b36), .val (.ref b45), .val (.ref aC), .val (.ref aC)] [(.ref aC)])) (fun _ k => XS.aload X57.here hx rfl (hb hby at_189) rfl rfl k) ?_
      have XO58 : Old Z n0 h57 := (XO53.ext E57)
      have A60 : Exa Z h57 aC "com/example/rateloom/rateloom/repricing/RequestStatus" := (B14.ext XO58.2)
      obtain ⟨cq59, kq59, q59a, q59b, q59c⟩ := isOf hZ e57 A60
      obtain ⟨_, _, ⟨T59, L59, k59, n59⟩, -, X59, ⟨Lc59, hQ59, l59, y59, z59⟩, st59⟩ := X57.virtualBack hx (y := (⟨"com/example/rateloom/rateloom/repricing/RequestStatus", "label", "()Ljava/lang/String;"⟩ : MethodName)) (z := (⟨"com/example/rateloom/rateloom/repricing/RequestStatus", "label", "()Ljava/lang/String;"⟩ : MethodName)) hown (mvT hZ (hw _ own_w66)) (mvT hZ (hw _ own_w67)) (notFace_of_selects (args := #[]) (mvT hZ (hw _ own_w69))) (mvT hZ (hw _ own_w69)) (mvT hZ (hw _ own_w68)) (by decide) (backOf (W := 0) (own_rm_lab l Z a0 hw G1 S1 P1 aP aC aE aV lP lC lE kV B [] aC lC h57 n0 (Nat.le_trans Z0 (Nat.le_trans (Nat.le_trans (Nat.le_trans (Nat.le_trans (Nat.le_trans (Nat.le_trans (Nat.le_trans (Nat.le_trans (Nat.le_trans (Nat.le_trans (Nat.le_trans (Nat.le_trans E36.1 (Nat.le_of_eq W37.size.symm)) (Nat.le_of_eq W38.size.symm)) (Nat.le_of_eq W39.size.symm)) (Nat.le_of_eq W40.size.symm)) (Nat.le_of_eq W41.size.symm)) (Nat.le_of_eq W42.size.symm)) (Nat.le_of_eq W43.size.symm)) (Nat.le_of_eq W44.size.symm)) E45.1) K50.1) E52.1) E57.1)) XO58 B5) hZ (hw _ own_w70) (hw _ own_w2) (by decide) (by decide)) q59a q59c (g := (mkF m 191 #[.val (.int p0), .val (.int ((p0 &&& (2147483647 : Int32)) % (3 : Int32))), .val (.ref aC), .val (.ref b36), .val (.ref b45), .val (.ref aC), .val (.ref aC)] [(.ref aC)])) rfl (by rw [hml]; rfl) (Steps.refl _) (argsL := []) (rest := []) (lenOf own_pd4 rfl) rfl (by show 2 * 0 + _ ≤ _; exact Nat.le_of_eq rfl) (hb hby at_191) (fun _ _ => ⟨rfl, e57, (by decide : 5 + 0 ≤ _), (by decide : 26 + 0 ≤ _)⟩)
      dsimp only [Pt.U, Pt.locs, Pt.cells, Pt.slots] at X59 l59 y59 z59 st59 hQ59
      subst l59 y59 z59
      obtain ⟨rfl, M59, e59⟩ := hQ59
      have N59 := Fr.app N57 M59
      refine own_tr (S' := T59.setTop (mkF m 194 #[.val (.int p0), .val (.int ((p0 &&& (2147483647 : Int32)) % (3 : Int32))), .val (.ref aC), .val (.ref b36), .val (.ref b45), .val (.ref aC), .val (.ref aC)] [(.ref lC)])) st59 ?_
      refine own_st (S' := T59.setTop (mkF m 196 #[.val (.int p0), .val (.int ((p0 &&& (2147483647 : Int32)) % (3 : Int32))), .val (.ref aC), .val (.ref b36), .val (.ref b45), .val (.ref aC), .val (.ref aC)] [(.ref b45), (.ref lC)])) (fun _ k => XS.aload X59.here hx rfl (hb hby at_194) rfl rfl k) ?_
      have G61 : own_Str Z h57 lC own_csC := (B8.ext XO58.2)
      have XE62 : Ext h50 h57 := (own_xt E52 E57)
      have G63 : own_Str Z h57 b45 own_csC := (Y50.ext XE62)
      have S64 : Sta Z h57 "java/lang/String" "COMPACT_STRINGS" "Z" (.int G1) := (S1.ext XO58.2)
      obtain ⟨cq65, kq65, q65a, q65b, q65c⟩ := isOf hZ e59 G61.exa
      obtain ⟨_, _, ⟨T65, L65, k65, n65⟩, -, X65, ⟨Lc65, hQ65, l65, y65, z65⟩, st65⟩ := X59.virtualBack hx (y := (⟨"java/lang/String", "equals", "(Ljava/lang/Object;)Z"⟩ : MethodName)) (z := (⟨"java/lang/String", "equals", "(Ljava/lang/Object;)Z"⟩ : MethodName)) hown (mvT hZ (hw _ own_w71)) (mvT hZ (hw _ own_w57)) (notFace_of_selects (args := #[]) (mvT hZ (hw _ own_w59))) (mvT hZ (hw _ own_w59)) (mvT hZ (hw _ own_w58)) (by decide) (own_eqB (W := 0) hZ hw G61 G63 S64 P1 (by decide) (by decide)) q65a q65c (g := (mkF m 196 #[.val (.int p0), .val (.int ((p0 &&& (2147483647 : Int32)) % (3 : Int32))), .val (.ref aC), .val (.ref b36), .val (.ref b45), .val (.ref aC), .val (.ref aC)] [(.ref b45), (.ref lC)])) rfl (by rw [hml]; rfl) (Steps.refl _) (argsL := [(.ref b45)]) (rest := []) (lenOf own_pd1 rfl) rfl (by show 2 * 0 + _ ≤ _; exact Nat.le_of_eq rfl) (hb hby at_196) (fun _ _ => ⟨rfl, e59, (by decide : 5 + 0 ≤ _), (by decide : 26 + 0 ≤ _)⟩)
      dsimp only [Pt.U, Pt.locs, Pt.cells, Pt.slots] at X65 l65 y65 z65 st65 hQ65
      subst l65 y65 z65
      obtain ⟨hQ65, rfl, e65⟩ := hQ65
      rw [List.append_nil] at X65
      obtain ⟨rfl, -⟩ := own_pickY hQ65 rfl
      refine own_tr (S' := T65.setTop (mkF m 199 #[.val (.int p0), .val (.int ((p0 &&& (2147483647 : Int32)) % (3 : Int32))), .val (.ref aC), .val (.ref b36), .val (.ref b45), .val (.ref aC), .val (.ref aC)] [(.int (1 : Int32))])) st65 ?_
      refine own_st (S' := T65.setTop (mkF m 207 #[.val (.int p0), .val (.int ((p0 &&& (2147483647 : Int32)) % (3 : Int32))), .val (.ref aC), .val (.ref b36), .val (.ref b45), .val (.ref aC), .val (.ref aC)] [(.int (1 : Int32))])) (fun _ k => XS.ifNo X65.here hx rfl (hb hby at_199) rfl (by decide) (XS.iconst X65.here hx rfl (hb hby at_202) (XS.goto X65.here hx rfl (pc0 := 203) (pc' := 207) rfl (hb hby at_203) (by decide) (by decide) k))) ?_
      refine own_ret X65 hx Bd.returns hlk rfl (Or.inl ⟨rfl, (by simp), _, rfl⟩) (hb hby at_207) (by decide) (by decide) ?_
      rw [e65]
      exact ⟨rfl, N59⟩
    · refine own_st (S' := s₁.setTop (mkF m 118 #[.val (.int p0), .val (.int ((p0 &&& (2147483647 : Int32)) % (3 : Int32))), .unset, .unset, .unset, .unset, .unset] [])) (fun _ k => XS.icmpYes X0.here hx rfl (pc0 := 61) (pc' := 118) rfl (hb hby at_61) rfl (feq hc33).2 (by decide) (by decide) k) ?_
      have S66 : Sta Z h0 "com/example/rateloom/rateloom/repricing/RequestStatus" "ERROR" "Lcom/example/rateloom/rateloom/repricing/RequestStatus;" (.ref aE) := (B12.ext XO.2)
      obtain ⟨T67, X67, e67, st67⟩ := getS2 X0 hx hZ hown (host := "") (Or.inl (hw _ own_w72)) Via.refl e0 S66 (g := (mkF m 118 #[.val (.int p0), .val (.int ((p0 &&& (2147483647 : Int32)) % (3 : Int32))), .unset, .unset, .unset, .unset, .unset] [])) rfl (hb hby at_118)
      refine own_st (S' := T67.setTop (mkF m 121 #[.val (.int p0), .val (.int ((p0 &&& (2147483647 : Int32)) % (3 : Int32))), .unset, .unset, .unset, .unset, .unset] [(.ref aE)])) st67 ?_
      refine own_st (S' := T67.setTop (mkF m 123 #[.val (.int p0), .val (.int ((p0 &&& (2147483647 : Int32)) % (3 : Int32))), .val (.ref aE), .unset, .unset, .unset, .unset] [(.int (5 : Int32))])) (fun _ k => XS.astoreN X67.here hx rfl (hb hby at_121) rfl rfl (l' := #[.val (.int p0), .val (.int ((p0 &&& (2147483647 : Int32)) % (3 : Int32))), .val (.ref aE), .unset, .unset, .unset, .unset]) rfl (XS.iconst X67.here hx rfl (hb hby at_122) k)) ?_
      obtain ⟨T68, h68, k68, X68, e68, E68, A68, AE68, st68⟩ := newPE X67 hx hZ (aty := .char) (hw _ own_w4) e67 (g := (mkF m 123 #[.val (.int p0), .val (.int ((p0 &&& (2147483647 : Int32)) % (3 : Int32))), .val (.ref aE), .unset, .unset, .unset, .unset] [(.int (5 : Int32))])) rfl (hb hby at_123) rfl (by decide) (cap := 5) (by decide) (by decide) (by decide) (by decide) (ad := "[C") (by decide)
      obtain ⟨b68, g68⟩ : ∃ z, z = h0.size := ⟨_, rfl⟩
      rw [← g68] at A68 AE68 st68
      have V68 : Arv Z h68 b68 k68 .char (5 : Int32) [(.int (0 : Int32)), (.int (0 : Int32)), (.int (0 : Int32)), (.int (0 : Int32)), (.int (0 : Int32))] (.int (0 : Int32)) := (Arv.new A68 (by decide)).pad (pad_rep [] (.int (0 : Int32)) 5)
      refine own_st (S' := T68.setTop (mkF m 125 #[.val (.int p0), .val (.int ((p0 &&& (2147483647 : Int32)) % (3 : Int32))), .val (.ref aE), .unset, .unset, .unset, .unset] [(.ref b68)])) st68 ?_
      refine own_st (S' := T68.setTop (mkF m 129 #[.val (.int p0), .val (.int ((p0 &&& (2147483647 : Int32)) % (3 : Int32))), .val (.ref aE), .unset, .unset, .unset, .unset] [(.int (69 : Int32)), (.int (0 : Int32)), (.ref b68), (.ref b68)])) (fun _ k => XS.dup X68.here hx rfl (hb hby at_125) rfl rfl (XS.iconst X68.here hx rfl (hb hby at_126) (XS.bipush X68.here hx rfl (hb hby at_127) k))) ?_
      obtain ⟨c69, A69, q69, S69, M69, H69, U69⟩ := id V68
      obtain ⟨T69, h69, X69, e69, W69, st69⟩ := stC X68 hx hZ e68 A69 (j := (0 : Int32)) (inb_of S69 ⟨by decide, by decide⟩) (g := (mkF m 129 #[.val (.int p0), .val (.int ((p0 &&& (2147483647 : Int32)) % (3 : Int32))), .val (.ref aE), .unset, .unset, .unset, .unset] [(.int (69 : Int32)), (.int (0 : Int32)), (.ref b68), (.ref b68)])) rfl rfl (hb hby at_129)
      have N69 := Fr.snoc X69 N0 (Nat.le_trans Z0 (Nat.le_of_eq g68.symm))
      have V69 : Arv Z h69 b68 k68 .char (5 : Int32) [(.int (69 : Int32)), (.int (0 : Int32)), (.int (0 : Int32)), (.int (0 : Int32)), (.int (0 : Int32))] (.int (0 : Int32)) := Arv.set A69 q69 S69 M69 H69 U69 (fits_nar_char _) W69 0 rfl (Nat.le_of_ble_eq_true rfl)
      refine own_st (S' := T69.setTop (mkF m 130 #[.val (.int p0), .val (.int ((p0 &&& (2147483647 : Int32)) % (3 : Int32))), .val (.ref aE), .unset, .unset, .unset, .unset] [(.ref b68)])) st69 ?_
      refine own_st (S' := T69.setTop (mkF m 134 #[.val (.int p0), .val (.int ((p0 &&& (2147483647 : Int32)) % (3 : Int32))), .val (.ref aE), .unset, .unset, .unset, .unset] [(.int (114 : Int32)), (.int (1 : Int32)), (.ref b68), (.ref b68)])) (fun _ k => XS.dup X69.here hx rfl (hb hby at_130) rfl rfl (XS.iconst X69.here hx rfl (hb hby at_131) (XS.bipush X69.here hx rfl (hb hby at_132) k))) ?_
      obtain ⟨c70, A70, q70, S70, M70, H70, U70⟩ := id V69
      obtain ⟨T70, h70, X70, e70, W70, st70⟩ := stC X69 hx hZ e69 A70 (j := (1 : Int32)) (inb_of S70 ⟨by decide, by decide⟩) (g := (mkF m 134 #[.val (.int p0), .val (.int ((p0 &&& (2147483647 : Int32)) % (3 : Int32))), .val (.ref aE), .unset, .unset, .unset, .unset] [(.int (114 : Int32)), (.int (1 : Int32)), (.ref b68), (.ref b68)])) rfl rfl (hb hby at_134)
      have N70 := Fr.snoc X70 N69 (Nat.le_trans Z0 (Nat.le_of_eq g68.symm))
      have V70 : Arv Z h70 b68 k68 .char (5 : Int32) [(.int (69 : Int32)), (.int (114 : Int32)), (.int (0 : Int32)), (.int (0 : Int32)), (.int (0 : Int32))] (.int (0 : Int32)) := Arv.set A70 q70 S70 M70 H70 U70 (fits_nar_char _) W70 1 rfl (Nat.le_of_ble_eq_true rfl)
      refine own_st (S' := T70.setTop (mkF m 135 #[.val (.int p0), .val (.int ((p0 &&& (2147483647 : Int32)) % (3 : Int32))), .val (.ref aE), .unset, .unset, .unset, .unset] [(.ref b68)])) st70 ?_
      refine own_st (S' := T70.setTop (mkF m 139 #[.val (.int p0), .val (.int ((p0 &&& (2147483647 : Int32)) % (3 : Int32))), .val (.ref aE), .unset, .unset, .unset, .unset] [(.int (114 : Int32)), (.int (2 : Int32)), (.ref b68), (.ref b68)])) (fun _ k => XS.dup X70.here hx rfl (hb hby at_135) rfl rfl (XS.iconst X70.here hx rfl (hb hby at_136) (XS.bipush X70.here hx rfl (hb hby at_137) k))) ?_
      obtain ⟨c71, A71, q71, S71, M71, H71, U71⟩ := id V70
      obtain ⟨T71, h71, X71, e71, W71, st71⟩ := stC X70 hx hZ e70 A71 (j := (2 : Int32)) (inb_of S71 ⟨by decide, by decide⟩) (g := (mkF m 139 #[.val (.int p0), .val (.int ((p0 &&& (2147483647 : Int32)) % (3 : Int32))), .val (.ref aE), .unset, .unset, .unset, .unset] [(.int (114 : Int32)), (.int (2 : Int32)), (.ref b68), (.ref b68)])) rfl rfl (hb hby at_139)
      have N71 := Fr.snoc X71 N70 (Nat.le_trans Z0 (Nat.le_of_eq g68.symm))
      have V71 : Arv Z h71 b68 k68 .char (5 : Int32) [(.int (69 : Int32)), (.int (114 : Int32)), (.int (114 : Int32)), (.int (0 : Int32)), (.int (0 : Int32))] (.int (0 : Int32)) := Arv.set A71 q71 S71 M71 H71 U71 (fits_nar_char _) W71 2 rfl (Nat.le_of_ble_eq_true rfl)
      refine own_st (S' := T71.setTop (mkF m 140 #[.val (.int p0), .val (.int ((p0 &&& (2147483647 : Int32)) % (3 : Int32))), .val (.ref aE), .unset, .unset, .unset, .unset] [(.ref b68)])) st71 ?_
      refine own_st (S' := T71.setTop (mkF m 144 #[.val (.int p0), .val (.int ((p0 &&& (2147483647 : Int32)) % (3 : Int32))), .val (.ref aE), .unset, .unset, .unset, .unset] [(.int (111 : Int32)), (.int (3 : Int32)), (.ref b68), (.ref b68)])) (fun _ k => XS.dup X71.here hx rfl (hb hby at_140) rfl rfl (XS.iconst X71.here hx rfl (hb hby at_141) (XS.bipush X71.here hx rfl (hb hby at_142) k))) ?_
      obtain ⟨c72, A72, q72, S72, M72, H72, U72⟩ := id V71
      obtain ⟨T72, h72, X72, e72, W72, st72⟩ := stC X71 hx hZ e71 A72 (j := (3 : Int32)) (inb_of S72 ⟨by decide, by decide⟩) (g := (mkF m 144 #[.val (.int p0), .val (.int ((p0 &&& (2147483647 : Int32)) % (3 : Int32))), .val (.ref aE), .unset, .unset, .unset, .unset] [(.int (111 : Int32)), (.int (3 : Int32)), (.ref b68), (.ref b68)])) rfl rfl (hb hby at_144)
      have N72 := Fr.snoc X72 N71 (Nat.le_trans Z0 (Nat.le_of_eq g68.symm))
      have V72 : Arv Z h72 b68 k68 .char (5 : Int32) [(.int (69 : Int32)), (.int (114 : Int32)), (.int (114 : Int32)), (.int (111 : Int32)), (.int (0 : Int32))] (.int (0 : Int32)) := Arv.set A72 q72 S72 M72 H72 U72 (fits_nar_char _) W72 3 rfl (Nat.le_of_ble_eq_true rfl)
      refine own_st (S' := T72.setTop (mkF m 145 #[.val (.int p0), .val (.int ((p0 &&& (2147483647 : Int32)) % (3 : Int32))), .val (.ref aE), .unset, .unset, .unset, .unset] [(.ref b68)])) st72 ?_
      refine own_st (S' := T72.setTop (mkF m 149 #[.val (.int p0), .val (.int ((p0 &&& (2147483647 : Int32)) % (3 : Int32))), .val (.ref aE), .unset, .unset, .unset, .unset] [(.int (114 : Int32)), (.int (4 : Int32)), (.ref b68), (.ref b68)])) (fun _ k => XS.dup X72.here hx rfl (hb hby at_145) rfl rfl (XS.iconst X72.here hx rfl (hb hby at_146) (XS.bipush X72.here hx rfl (hb hby at_147) k))) ?_
      obtain ⟨c73, A73, q73, S73, M73, H73, U73⟩ := id V72
      obtain ⟨T73, h73, X73, e73, W73, st73⟩ := stC X72 hx hZ e72 A73 (j := (4 : Int32)) (inb_of S73 ⟨by decide, by decide⟩) (g := (mkF m 149 #[.val (.int p0), .val (.int ((p0 &&& (2147483647 : Int32)) % (3 : Int32))), .val (.ref aE), .unset, .unset, .unset, .unset] [(.int (114 : Int32)), (.int (4 : Int32)), (.ref b68), (.ref b68)])) rfl rfl (hb hby at_149)
      have N73 := Fr.snoc X73 N72 (Nat.le_trans Z0 (Nat.le_of_eq g68.symm))
      have V73 : Arv Z h73 b68 k68 .char (5 : Int32) [(.int (69 : Int32)), (.int (114 : Int32)), (.int (114 : Int32)), (.int (111 : Int32)), (.int (114 : Int32))] (.int (0 : Int32)) := Arv.set A73 q73 S73 M73 H73 U73 (fits_nar_char _) W73 4 rfl (Nat.le_of_ble_eq_true rfl)
      refine own_st (S' := T73.setTop (mkF m 150 #[.val (.int p0), .val (.int ((p0 &&& (2147483647 : Int32)) % (3 : Int32))), .val (.ref aE), .unset, .unset, .unset, .unset] [(.ref b68)])) st73 ?_
      refine own_st (S' := T73.setTop (mkF m 151 #[.val (.int p0), .val (.int ((p0 &&& (2147483647 : Int32)) % (3 : Int32))), .val (.ref aE), .val (.ref b68), .unset, .unset, .unset] [])) (fun _ k => XS.astoreN X73.here hx rfl (hb hby at_150) rfl rfl (l' := #[.val (.int p0), .val (.int ((p0 &&& (2147483647 : Int32)) % (3 : Int32))), .val (.ref aE), .val (.ref b68), .unset, .unset, .unset]) rfl k) ?_
      obtain ⟨T74, h74, X74, e74, E74, A74, D74, -, st74⟩ := newO X73 hx hZ hown (hw _ own_w5) (hw _ own_w6) (hw _ own_w7) e73 (g := (mkF m 151 #[.val (.int p0), .val (.int ((p0 &&& (2147483647 : Int32)) % (3 : Int32))), .val (.ref aE), .val (.ref b68), .unset, .unset, .unset] [])) rfl (hb hby at_151) (by decide) (by decide)
      obtain ⟨b74, g74⟩ : ∃ z, z = h73.size := ⟨_, rfl⟩
      rw [← g74] at A74 D74 st74
      refine own_st (S' := T74.setTop (mkF m 154 #[.val (.int p0), .val (.int ((p0 &&& (2147483647 : Int32)) % (3 : Int32))), .val (.ref aE), .val (.ref b68), .unset, .unset, .unset] [(.ref b74)])) st74 ?_
      refine own_st (S' := T74.setTop (mkF m 156 #[.val (.int p0), .val (.int ((p0 &&& (2147483647 : Int32)) % (3 : Int32))), .val (.ref aE), .val (.ref b68), .unset, .unset, .unset] [(.ref b68), (.ref b74), (.ref b74)])) (fun _ k => XS.dup X74.here hx rfl (hb hby at_154) rfl rfl (XS.aloadN X74.here hx rfl (hb hby at_155) rfl rfl k)) ?_
      have V75 : Arv Z h74 b68 k68 .char (5 : Int32) [(.int (69 : Int32)), (.int (114 : Int32)), (.int (114 : Int32)), (.int (111 : Int32)), (.int (114 : Int32))] (.int (0 : Int32)) := (V73.ext E74)
      have XE76 : Ext h0 h74 := (own_xt (own_xw (own_xw (own_xw (own_xw (own_xw E68 W69 (Nat.le_of_eq g68.symm)) W70 (Nat.le_of_eq g68.symm)) W71 (Nat.le_of_eq g68.symm)) W72 (Nat.le_of_eq g68.symm)) W73 (Nat.le_of_eq g68.symm)) E74)
      have XO77 : Old Z n0 h74 := (XO.ext XE76)
      have S78 : Sta Z h74 "java/lang/String" "COMPACT_STRINGS" "Z" (.int G1) := (S1.ext XO77.2)
      obtain ⟨_, _, ⟨T79, L79, k79, n79⟩, -, X79, ⟨Lc79, hQ79, l79, y79, z79⟩, st79⟩ := X74.specialBack hx (y := (⟨"java/lang/String", "<init>", "([C)V"⟩ : MethodName)) rfl hown (mvT hZ (hw _ own_w8)) (mvT hZ (hw _ own_w9)) (mvT hZ (hw _ own_w10)) (by decide) (own_newB (W := 1) hZ hw (cs := own_csE) (n := 5) (n0 := n0) (Nat.le_trans Z0 (Nat.le_trans (Nat.le_trans (Nat.le_trans (Nat.le_trans (Nat.le_trans (Nat.le_trans E68.1 (Nat.le_of_eq W69.size.symm)) (Nat.le_of_eq W70.size.symm)) (Nat.le_of_eq W71.size.symm)) (Nat.le_of_eq W72.size.symm)) (Nat.le_of_eq W73.size.symm)) (Nat.le_of_eq g74.symm))) (Nat.le_trans Z0 (Nat.le_trans (Nat.le_trans (Nat.le_trans (Nat.le_trans (Nat.le_trans (Nat.le_trans E68.1 (Nat.le_of_eq W69.size.symm)) (Nat.le_of_eq W70.size.symm)) (Nat.le_of_eq W71.size.symm)) (Nat.le_of_eq W72.size.symm)) (Nat.le_of_eq W73.size.symm)) E74.1)) A74 (D74 (Or.inr (hw _ own_w33)) (ty := (.array .byte)) (by decide)) (D74 (Or.inr (hw _ own_w31)) (ty := .byte) (by decide)) V75 S78 P1 rfl rfl (by decide) (by decide) own_hpE (by decide) (by decide)) (g := (mkF m 156 #[.val (.int p0), .val (.int ((p0 &&& (2147483647 : Int32)) % (3 : Int32))), .val (.ref aE), .val (.ref b68), .unset, .unset, .unset] [(.ref b68), (.ref b74), (.ref b74)])) rfl (by rw [hml]; rfl) (Steps.refl _) (a := b74) (argsL := [(.ref b68)]) (rest := [(.ref b74)]) (lenOf own_pd2 rfl) rfl (by show 2 * 0 + _ ≤ _; exact Nat.le_of_eq rfl) (hb hby at_156) (fun _ _ => ⟨rfl, e74, (by decide : 2 + 1 ≤ _), (by decide : 9 + 5 ≤ _)⟩)
      dsimp only [Pt.U, Pt.locs, Pt.cells, Pt.slots] at X79 l79 y79 z79 st79 hQ79
      subst l79 y79 z79
      obtain ⟨rfl, M79, K79, Y79⟩ := hQ79
      have N79 := Fr.app N73 M79
      obtain ⟨h79, e79⟩ : ∃ z, T79.heap = z := ⟨_, rfl⟩
      rw [e79] at K79 Y79
      refine own_tr (S' := T79.setTop (mkF m 159 #[.val (.int p0), .val (.int ((p0 &&& (2147483647 : Int32)) % (3 : Int32))), .val (.ref aE), .val (.ref b68), .unset, .unset, .unset] [(.ref b74)])) st79 ?_
      refine own_st (S' := T79.setTop (mkF m 163 #[.val (.int p0), .val (.int ((p0 &&& (2147483647 : Int32)) % (3 : Int32))), .val (.ref aE), .val (.ref b68), .val (.ref b74), .unset, .unset] [(.ref b74)])) (fun _ k => XS.astore X79.here hx rfl (hb hby at_159) rfl rfl (l' := #[.val (.int p0), .val (.int ((p0 &&& (2147483647 : Int32)) % (3 : Int32))), .val (.ref aE), .val (.ref b68), .val (.ref b74), .unset, .unset]) rfl (XS.aload X79.here hx rfl (hb hby at_161) rfl rfl k)) ?_
      have XO80 : Old Z n0 h79 := (XO77.keep K79 (allS (Nat.le_trans Z0 (Nat.le_trans (Nat.le_trans (Nat.le_trans (Nat.le_trans (Nat.le_trans (Nat.le_trans E68.1 (Nat.le_of_eq W69.size.symm)) (Nat.le_of_eq W70.size.symm)) (Nat.le_of_eq W71.size.symm)) (Nat.le_of_eq W72.size.symm)) (Nat.le_of_eq W73.size.symm)) (Nat.le_of_eq g74.symm))) all0))
      obtain ⟨_, _, ⟨T81, L81, k81, n81⟩, -, X81, ⟨Lc81, hQ81, l81, y81, z81⟩, st81⟩ := Jvm.LawKit.callS X79 hx (y := (⟨"com/example/rateloom/rateloom/repricing/RequestStatus", "ofLabel", "(Ljava/lang/String;)Lcom/example/rateloom/rateloom/repricing/RequestStatus;"⟩ : MethodName)) hown (mvT hZ (hw _ own_w34)) (mvT hZ (hw _ own_w35)) (mvT hZ (hw _ own_w2)) (mvT hZ (hw _ own_w36)) (by decide) (backOf (W := 0) (own_rm_of l Z a0 hw G1 S1 P1 aP aC aE aV lP lC lE kV B [] b74 own_csE h79 n0 (Nat.le_trans Z0 (Nat.le_trans (Nat.le_trans (Nat.le_trans (Nat.le_trans (Nat.le_trans (Nat.le_trans (Nat.le_trans E68.1 (Nat.le_of_eq W69.size.symm)) (Nat.le_of_eq W70.size.symm)) (Nat.le_of_eq W71.size.symm)) (Nat.le_of_eq W72.size.symm)) (Nat.le_of_eq W73.size.symm)) E74.1) K79.1)) XO80 Y79 (Or.inr (Or.inr rfl))) hZ (hw _ own_w36) (hw _ own_w2) (by decide) (by decide)) (g := (mkF m 163 #[.val (.int p0), .val (.int ((p0 &&& (2147483647 : Int32)) % (3 : Int32))), .val (.ref aE), .val (.ref b68), .val (.ref b74), .unset, .unset] [(.ref b74)])) rfl (by rw [hml]; rfl) (argsL := [(.ref b74)]) (rest := []) (lenOf own_pd3 rfl) rfl (by show 2 * 0 + _ ≤ _; exact Nat.le_of_eq rfl) (hb hby at_163) (fun _ _ => ⟨rfl, e79, (by decide : 3 + 1 ≤ _), (by decide : 14 + 3 ≤ _)⟩)
      dsimp only [Pt.U, Pt.locs, Pt.cells, Pt.slots] at X81 l81 y81 z81 st81 hQ81
      subst l81 y81 z81
      obtain ⟨r81, rfl, M81, E81, o81⟩ := hQ81
      have N81 := Fr.app N79 M81
      obtain ⟨h81, e81⟩ : ∃ z, T81.heap = z := ⟨_, rfl⟩
      rw [e81] at E81
      obtain rfl : aE = r81 := by
        rcases o81 with ⟨q, r⟩ | ⟨q, r⟩ | ⟨q, r⟩
        · exact absurd q (by decide)
        · exact absurd q (by decide)
        · exact r.symm
      refine own_st (S' := T81.setTop (mkF m 166 #[.val (.int p0), .val (.int ((p0 &&& (2147483647 : Int32)) % (3 : Int32))), .val (.ref aE), .val (.ref b68), .val (.ref b74), .unset, .unset] [(.ref aE)])) st81 ?_
      refine own_st (S' := T81.setTop (mkF m 169 #[.val (.int p0), .val (.int ((p0 &&& (2147483647 : Int32)) % (3 : Int32))), .val (.ref aE), .val (.ref b68), .val (.ref b74), .val (.ref aE), .unset] [(.ref aE)])) (fun _ k => XS.astore X81.here hx rfl (hb hby at_166) rfl rfl (l' := #[.val (.int p0), .val (.int ((p0 &&& (2147483647 : Int32)) % (3 : Int32))), .val (.ref aE), .val (.ref b68), .val (.ref b74), .val (.ref aE), .unset]) rfl (XS.aloadN X81.here hx rfl (hb hby at_168) rfl rfl k)) ?_
      have XO82 : Old Z n0 h81 := (XO80.ext E81)
      have A84 : Exa Z h81 aE "com/example/rateloom/rateloom/repricing/RequestStatus" := (B15.ext XO82.2)
      obtain ⟨cq83, kq83, q83a, q83b, q83c⟩ := isOf hZ e81 A84
      obtain ⟨_, _, ⟨T83, L83, k83, n83⟩, -, X83, ⟨Lc83, hQ83, l83, y83, z83⟩, st83⟩ := X81.virtualBack hx (y := (⟨"com/example/rateloom/rateloom/repricing/RequestStatus", "label", "()Ljava/lang/String;"⟩ : MethodName)) (z := (⟨"com/example/rateloom/rateloom/repricing/RequestStatus", "label", "()Ljava/lang/String;"⟩ : MethodName)) hown (mvT hZ (hw _ own_w66)) (mvT hZ (hw _ own_w67)) (notFace_of_selects (args := #[]) (mvT hZ (hw _ own_w69))) (mvT hZ (hw _ own_w69)) (mvT hZ (hw _ own_w68)) (by decide) (backOf (W := 0) (own_rm_lab l Z a0 hw G1 S1 P1 aP aC aE aV lP lC lE kV B [] aE lE h81 n0 (Nat.le_trans Z0 (Nat.le_trans (Nat.le_trans (Nat.le_trans (Nat.le_trans (Nat.le_trans (Nat.le_trans (Nat.le_trans (Nat.le_trans E68.1 (Nat.le_of_eq W69.size.symm)) (Nat.le_of_eq W70.size.symm)) (Nat.le_of_eq W71.size.symm)) (Nat.le_of_eq W72.size.symm)) (Nat.le_of_eq W73.size.symm)) E74.1) K79.1) E81.1)) XO82 B6) hZ (hw _ own_w70) (hw _ own_w2) (by decide) (by decide)) q83a q83c (g := (mkF m 169 #[.val (.int p0), .val (.int ((p0 &&& (2147483647 : Int32)) % (3 : Int32))), .val (.ref aE), .val (.ref b68), .val (.ref b74), .val (.ref aE), .unset] [(.ref aE)])) rfl (by rw [hml]; rfl) (Steps.refl _) (argsL := []) (rest := []) (lenOf own_pd4 rfl) rfl (by show 2 * 0 + _ ≤ _; exact Nat.le_of_eq rfl) (hb hby at_169) (fun _ _ => ⟨rfl, e81, (by decide : 4 + 0 ≤ _), (by decide : 17 + 0 ≤ _)⟩)
      dsimp only [Pt.U, Pt.locs, Pt.cells, Pt.slots] at X83 l83 y83 z83 st83 hQ83
      subst l83 y83 z83
      obtain ⟨rfl, M83, e83⟩ := hQ83
      have N83 := Fr.app N81 M83
      refine own_tr (S' := T83.setTop (mkF m 172 #[.val (.int p0), .val (.int ((p0 &&& (2147483647 : Int32)) % (3 : Int32))), .val (.ref aE), .val (.ref b68), .val (.ref b74), .val (.ref aE), .unset] [(.ref lE)])) st83 ?_
      have G85 : own_Str Z h81 lE own_csE := (B9.ext XO82.2)
      obtain ⟨_, _, ⟨T86, L86, k86, n86⟩, -, X86, ⟨Lc86, hQ86, l86, y86, z86⟩, st86⟩ := Jvm.LawKit.callS X83 hx (y := (⟨"com/example/rateloom/rateloom/repricing/RequestStatus", "ofLabel", "(Ljava/lang/String;)Lcom/example/rateloom/rateloom/repricing/RequestStatus;"⟩ : MethodName)) hown (mvT hZ (hw _ own_w34)) (mvT hZ (hw _ own_w35)) (mvT hZ (hw _ own_w2)) (mvT hZ (hw _ own_w36)) (by decide) (backOf (W := 0) (own_rm_of l Z a0 hw G1 S1 P1 aP aC aE aV lP lC lE kV B [] lE own_csE h81 n0 (Nat.le_trans Z0 (Nat.le_trans (Nat.le_trans (Nat.le_trans (Nat.le_trans (Nat.le_trans (Nat.le_trans (Nat.le_trans (Nat.le_trans E68.1 (Nat.le_of_eq W69.size.symm)) (Nat.le_of_eq W70.size.symm)) (Nat.le_of_eq W71.size.symm)) (Nat.le_of_eq W72.size.symm)) (Nat.le_of_eq W73.size.symm)) E74.1) K79.1) E81.1)) XO82 G85 (Or.inr (Or.inr rfl))) hZ (hw _ own_w36) (hw _ own_w2) (by decide) (by decide)) (g := (mkF m 172 #[.val (.int p0), .val (.int ((p0 &&& (2147483647 : Int32)) % (3 : Int32))), .val (.ref aE), .val (.ref b68), .val (.ref b74), .val (.ref aE), .unset] [(.ref lE)])) rfl (by rw [hml]; rfl) (argsL := [(.ref lE)]) (rest := []) (lenOf own_pd3 rfl) rfl (by show 2 * 0 + _ ≤ _; exact Nat.le_of_eq rfl) (hb hby at_172) (fun _ _ => ⟨rfl, e83, (by decide : 4 + 1 ≤ _), (by decide : 17 + 3 ≤ _)⟩)
      dsimp only [Pt.U, Pt.locs, Pt.cells, Pt.slots] at X86 l86 y86 z86 st86 hQ86
      subst l86 y86 z86
      obtain ⟨r86, rfl, M86, E86, o86⟩ := hQ86
      have N86 := Fr.app N83 M86
      obtain ⟨h86, e86⟩ : ∃ z, T86.heap = z := ⟨_, rfl⟩
      rw [e86] at E86
      obtain rfl : aE = r86 := by
        rcases o86 with ⟨q, r⟩ | ⟨q, r⟩ | ⟨q, r⟩
        · exact absurd q (by decide)
        · exact absurd q (by decide)
        · exact r.symm
      refine own_st (S' := T86.setTop (mkF m 175 #[.val (.int p0), .val (.int ((p0 &&& (2147483647 : Int32)) % (3 : Int32))), .val (.ref aE), .val (.ref b68), .val (.ref b74), .val (.ref aE), .unset] [(.ref aE)])) st86 ?_
      refine own_st (S' := T86.setTop (mkF m 180 #[.val (.int p0), .val (.int ((p0 &&& (2147483647 : Int32)) % (3 : Int32))), .val (.ref aE), .val (.ref b68), .val (.ref b74), .val (.ref aE), .val (.ref aE)] [(.ref aE), (.ref aE)])) (fun _ k => XS.astore X86.here hx rfl (hb hby at_175) rfl rfl (l' := #[.val (.int p0), .val (.int ((p0 &&& (2147483647 : Int32)) % (3 : Int32))), .val (.ref aE), .val (.ref b68), .val (.ref b74), .val (.ref aE), .val (.ref aE)]) rfl (XS.aload X86.here hx rfl (hb hby at_177) rfl rfl (XS.aloadN X86.here hx rfl (hb hby at_179) rfl rfl k))) ?_
      refine own_st (S' := T86.setTop (mkF m 183 #[.val (.int p0), .val (.int ((p0 &&& (2147483647 : Int32)) % (3 : Int32))), .val (.ref aE), .val (.ref b68), .val (.ref b74), .val (.ref aE), .val (.ref aE)] [])) (fun _ k => Jvm.RoadKit.acmp (g := (mkF m 180 #[.val (.int p0), .val (.int ((p0 &&& (2147483647 : Int32)) % (3 : Int32))), .val (.ref aE), .val (.ref b68), .val (.ref b74), .val (.ref aE), .val (.ref aE)] [(.ref aE), (.ref aE)])) X86 hx rfl rfl rfl (pc0 := 180) (pc' := 183) (same := true) rfl (hb hby at_180) rfl (decide_eq_true rfl) (by decide) (by decide) k) ?_
      refine own_st (S' := T86.setTop (mkF m 186 #[.val (.int p0), .val (.int ((p0 &&& (2147483647 : Int32)) % (3 : Int32))), .val (.ref aE), .val (.ref b68), .val (.ref b74), .val (.ref aE), .val (.ref aE)] [(.ref aE), (.ref aE)])) (fun _ k => XS.aload X86.here hx rfl (hb hby at_183) rfl rfl (XS.aloadN X86.here hx rfl (hb hby at_185) rfl rfl k)) ?_
      refine own_st (S' := T86.setTop (mkF m 189 #[.val (.int p0), .val (.int ((p0 &&& (2147483647 : Int32)) % (3 : Int32))), .val (.ref aE), .val (.ref b68), .val (.ref b74), .val (.ref aE), .val (.ref aE)] [])) (fun _ k => Jvm.RoadKit.acmp (g := (mkF m 186 #[.val (.int p0), .val (.int ((p0 &&& (2147483647 : Int32)) % (3 : Int32))), .val (.ref aE), .val (.ref b68), .val (.ref b74), .val (.ref aE), .val (.ref aE)] [(.ref aE), (.ref aE)])) X86 hx rfl rfl rfl (pc0 := 186) (pc' := 189) (same := true) rfl (hb hby at_186) rfl (decide_eq_true rfl) (by decide) (by decide) k) ?_
      refine own_st (S' := T86.setTop (mkF m 191 #[.val (.int p0), .val (.int ((p0 &&& (2147483647 : Int32)) % (3 : Int32))), .val (.ref aE), .val (.ref b68), .val (.ref b74), .val (.ref aE), .val (.ref aE)] [(.ref aE)])) (fun _ k => XS.aload X86.here hx rfl (hb hby at_189) rfl rfl k) ?_
      have XO87 : Old Z n0 h86 := (XO82.ext E86)
      have A89 : Exa Z h86 aE "com/example/rateloom/rateloom/repricing/RequestStatus" := (B15.ext XO87.2)
      obtain ⟨cq88, kq88, q88a, q88b, q88c⟩ := isOf hZ e86 A89
      obtain ⟨_, _, ⟨T88, L88, k88, n88⟩, -, X88, ⟨Lc88, hQ88, l88, y88, z88⟩, st88⟩ := X86.virtualBack hx (y := (⟨"com/example/rateloom/rateloom/repricing/RequestStatus", "label", "()Ljava/lang/String;"⟩ : MethodName)) (z := (⟨"com/example/rateloom/rateloom/repricing/RequestStatus", "label", "()Ljava/lang/String;"⟩ : MethodName)) hown (mvT hZ (hw _ own_w66)) (mvT hZ (hw _ own_w67)) (notFace_of_selects (args := #[]) (mvT hZ (hw _ own_w69))) (mvT hZ (hw _ own_w69)) (mvT hZ (hw _ own_w68)) (by decide) (backOf (W := 0) (own_rm_lab l Z a0 hw G1 S1 P1 aP aC aE aV lP lC lE kV B [] aE lE h86 n0 (Nat.le_trans Z0 (Nat.le_trans (Nat.le_trans (Nat.le_trans (Nat.le_trans (Nat.le_trans (Nat.le_trans (Nat.le_trans (Nat.le_trans (Nat.le_trans E68.1 (Nat.le_of_eq W69.size.symm)) (Nat.le_of_eq W70.size.symm)) (Nat.le_of_eq W71.size.symm)) (Nat.le_of_eq W72.size.symm)) (Nat.le_of_eq W73.size.symm)) E74.1) K79.1) E81.1) E86.1)) XO87 B6) hZ (hw _ own_w70) (hw _ own_w2) (by decide) (by decide)) q88a q88c (g := (mkF m 191 #[.val (.int p0), .val (.int ((p0 &&& (2147483647 : Int32)) % (3 : Int32))), .val (.ref aE), .val (.ref b68), .val (.ref b74), .val (.ref aE), .val (.ref aE)] [(.ref aE)])) rfl (by rw [hml]; rfl) (Steps.refl _) (argsL := []) (rest := []) (lenOf own_pd4 rfl) rfl (by show 2 * 0 + _ ≤ _; exact Nat.le_of_eq rfl) (hb hby at_191) (fun _ _ => ⟨rfl, e86, (by decide : 5 + 0 ≤ _), (by decide : 20 + 0 ≤ _)⟩)
      dsimp only [Pt.U, Pt.locs, Pt.cells, Pt.slots] at X88 l88 y88 z88 st88 hQ88
      subst l88 y88 z88
      obtain ⟨rfl, M88, e88⟩ := hQ88
      have N88 := Fr.app N86 M88
      refine own_tr (S' := T88.setTop (mkF m 194 #[.val (.int p0), .val (.int ((p0 &&& (2147483647 : Int32)) % (3 : Int32))), .val (.ref aE), .val (.ref b68), .val (.ref b74), .val (.ref aE), .val (.ref aE)] [(.ref lE)])) st88 ?_
      refine own_st (S' := T88.setTop (mkF m 196 #[.val (.int p0), .val (.int ((p0 &&& (2147483647 : Int32)) % (3 : Int32))), .val (.ref aE), .val (.ref b68), .val (.ref b74), .val (.ref aE), .val (.ref aE)] [(.ref b74), (.ref lE)])) (fun _ k => XS.aload X88.here hx rfl (hb hby at_194) rfl rfl k) ?_
      have G90 : own_Str Z h86 lE own_csE := (B9.ext XO87.2)
      have XE91 : Ext h79 h86 := (own_xt E81 E86)
      have G92 : own_Str Z h86 b74 own_csE := (Y79.ext XE91)
      have S93 : Sta Z h86 "java/lang/String" "COMPACT_STRINGS" "Z" (.int G1) := (S1.ext XO87.2)
      obtain ⟨cq94, kq94, q94a, q94b, q94c⟩ := isOf hZ e88 G90.exa
      obtain ⟨_, _, ⟨T94, L94, k94, n94⟩, -, X94, ⟨Lc94, hQ94, l94, y94, z94⟩, st94⟩ := X88.virtualBack hx (y := (⟨"java/lang/String", "equals", "(Ljava/lang/Object;)Z"⟩ : MethodName)) (z := (⟨"java/lang/String", "equals", "(Ljava/lang/Object;)Z"⟩ : MethodName)) hown (mvT hZ (hw _ own_w71)) (mvT hZ (hw _ own_w57)) (notFace_of_selects (args := #[]) (mvT hZ (hw _ own_w59))) (mvT hZ (hw _ own_w59)) (mvT hZ (hw _ own_w58)) (by decide) (own_eqB (W := 0) hZ hw G90 G92 S93 P1 (by decide) (by decide)) q94a q94c (g := (mkF m 196 #[.val (.int p0), .val (.int ((p0 &&& (2147483647 : Int32)) % (3 : Int32))), .val (.ref aE), .val (.ref b68), .val (.ref b74), .val (.ref aE), .val (.ref aE)] [(.ref b74), (.ref lE)])) rfl (by rw [hml]; rfl) (Steps.refl _) (argsL := [(.ref b74)]) (rest := []) (lenOf own_pd1 rfl) rfl (by show 2 * 0 + _ ≤ _; exact Nat.le_of_eq rfl) (hb hby at_196) (fun _ _ => ⟨rfl, e88, (by decide : 5 + 0 ≤ _), (by decide : 20 + 0 ≤ _)⟩)
      dsimp only [Pt.U, Pt.locs, Pt.cells, Pt.slots] at X94 l94 y94 z94 st94 hQ94
      subst l94 y94 z94
      obtain ⟨hQ94, rfl, e94⟩ := hQ94
      rw [List.append_nil] at X94
      obtain ⟨rfl, -⟩ := own_pickY hQ94 rfl
      refine own_tr (S' := T94.setTop (mkF m 199 #[.val (.int p0), .val (.int ((p0 &&& (2147483647 : Int32)) % (3 : Int32))), .val (.ref aE), .val (.ref b68), .val (.ref b74), .val (.ref aE), .val (.ref aE)] [(.int (1 : Int32))])) st94 ?_
      refine own_st (S' := T94.setTop (mkF m 207 #[.val (.int p0), .val (.int ((p0 &&& (2147483647 : Int32)) % (3 : Int32))), .val (.ref aE), .val (.ref b68), .val (.ref b74), .val (.ref aE), .val (.ref aE)] [(.int (1 : Int32))])) (fun _ k => XS.ifNo X94.here hx rfl (hb hby at_199) rfl (by decide) (XS.iconst X94.here hx rfl (hb hby at_202) (XS.goto X94.here hx rfl (pc0 := 203) (pc' := 207) rfl (hb hby at_203) (by decide) (by decide) k))) ?_
      refine own_ret X94 hx Bd.returns hlk rfl (Or.inl ⟨rfl, (by simp), _, rfl⟩) (hb hby at_207) (by decide) (by decide) ?_
      rw [e94]
      exact ⟨rfl, N88⟩
section OwnCase
variable {args : Array Value} {s : State} {a b t : Term} {v w : Value} {x : Addr}
theorem own_ev (h : (Cond.eq a b).value args s none s [] = some true) (hb : b.eval args s none [] s = some w) (hw : (∃ z, w = .int z) ∨ w.isRef = true) : a.eval args s none [] s = some w := by
  cases ha : a.eval args s none [] s with
  | none => simp [Cond.value, ha] at h
  | some v =>
    rcases hw with ⟨z, rfl⟩ | hw
    · cases v <;> simp_all [Cond.value]
    · cases v <;> cases w <;> simp_all [Cond.value, Value.isRef]
theorem own_exa {C : String} (h : (Cond.exactly t C).value args s none s [] = some true) : ∃ x, t.eval args s none [] s = some (.ref x) ∧ Exa s s.heap x C := by
  obtain ⟨x, hx⟩ := exa_v h
  exact ⟨x, hx, Exa.start hx h⟩
theorem own_exA {C : String} (hx : t.eval args s none [] s = some (.ref x)) (h : (Cond.exactly t C).value args s none s [] = some true) : Exa s s.heap x C := Exa.start hx h
theorem own_fld {C n d : String} (ht : t.eval args s none [] s = some (.ref x)) (h : (Term.field t C n d).eval args s none [] s = some v) : Fld s s.heap x C n d v := Fld.start (by rw [← fld_at ht]; exact h)
def own_Els (args : Array Value) (s : State) (t : Term) : Nat → List Value → Prop
  | _, [] => True
  | i, v :: r => (Term.elem t (Term.int (Int32.ofNat i))).eval args s none [] s = some v ∧ own_Els args s t (i + 1) r
theorem own_hasL {cl : Cell} (ht : t.eval args s none [] s = some (.ref x)) (hc : s.heap[x]? = some cl) : ∀ (vs : List Value) (i : Nat), i + vs.length < 2 ^ 31 → own_Els args s t i vs → HasL cl i vs
  | [], _, _, _ => trivial
  | v :: r, i, hi, H => by
    have hi' : i < 2 ^ 31 := by simp only [List.length_cons] at hi; omega
    have q := (elem_in H.1 ht (Term.int_eval _) hc).2
    have e : (Int32.ofNat i).toNatClampNeg = i := by
      have := Int32.toInt_ofNat_small hi'
      simp only [Int32.toNatClampNeg, this]; omega
    rw [e] at q
    exact ⟨q, own_hasL ht hc r (i + 1) (by simp only [List.length_cons] at hi; omega) H.2⟩
theorem own_arv {ty : FieldType} {z : Int32} {vs : List Value} {dv : Value} (hf : Fit s) (ht : t.eval args s none [] s = some (.ref x)) (hA : (Cond.arrayOf t ty).value args s none s [] = some true) (hL : (Cond.eq (Term.length t) (Term.int z)).value args s none s [] = some true) (hz : ¬ z < 0) (hl : z.toNatClampNeg = vs.length) (hE : own_Els args s t 0 vs) : ∃ k, Arv s s.heap x k ty z vs dv := by
  obtain ⟨c, A⟩ := Arr.start ht hA
  have hlen := own_ev hL (Term.int_eval z) (Or.inl ⟨_, rfl⟩)
  have hat : s.arrayAt? x = some c := A.fin (Vm.Alike.refl _)
  have hb : c.slots.size < 2 ^ 31 ∧ c.slots.size.toInt32 = z := by
    simp only [Term.eval, ht, hat, Option.bind_eq_bind, Option.bind_some] at hlen
    split at hlen
    · rename_i hq
      refine ⟨hq, ?_⟩
      simpa using hlen
    · cases hlen
  have hv : 0 + vs.length < 2 ^ 31 := by
    have := (back32 hz).2; omega
  exact ⟨_, Arv.start hf A hb.1 hb.2 hz hl (own_hasL ht A.1 vs 0 hv hE)⟩
theorem own_neq {y : Addr} (h : (Cond.not (Cond.eq a b)).value args s none s [] = some true) (ha : a.eval args s none [] s = some (.ref x)) (hb : b.eval args s none [] s = some (.ref y)) : x ≠ y := fun q => by
  have := not_v h
  rw [eq_R ha hb rfl rfl] at this
  simp [q] at this
end OwnCase
set_option maxRecDepth 65536 in
set_option maxHeartbeats 40000000 in
theorem comes_1 {Post : Tables → Env → Array Value → State → Outcome → State → Prop} (hpost : ∀ tb e args s v u, (limb_1_1.after args s (.returned v) u = true ∧ limb_1_2.after args s (.returned v) u = true ∧ True) → FrameEnd s (.returned v) u (Jvm.fieldLocs frame_1_writes args s ++ Jvm.arrayLocs frame_1_arrays args s ++ Jvm.staticLocs frame_1_statics s) 24 128 → Post tb e args s (.returned v) u) :
    ArmFor flags0 classFile x code maxLocals ret World_1 tables_1 room_1 Calls_1 rest_1 Pre_1 Post := by
  intro l hfl _ _ p e ha hc hk s m args below hf hA hF happ hP
  obtain ⟨hcalls, hrest, hpre⟩ := hP
  obtain ⟨-, -, -, hnamed, -, -, -, hat⟩ := (Spec.applies_iff hf).mp happ
  obtain ⟨hg, hn⟩ := and_e (Cond.before_iff.mp (show (Jvm.Cond.and given_1 narrow_1).before args s = true from hpre))
  obtain ⟨hcnt, hargs⟩ := and_e hg
  obtain ⟨w0, rfl⟩ : ∃ w0 : Value, args = #[w0] := by
    have hs : args.size = 1 := by simpa [Cond.value, given_1] using hcnt
    obtain ⟨L⟩ := args
    match L, hs with
    | [w0], _ => exact ⟨w0, rfl⟩
  have hw := fun d (hd : d ∈ tables_1) => atoms_spec (ws := Jvm.Cond.code x code maxLocals ret :: tables_1) hat d (List.mem_cons_of_mem _ hd)
  obtain ⟨hsets, hown0⟩ := atoms_of _ (rest_1_c_eq ▸ (show rest_1_c.before _ s = true from hrest))
  have hfit : Fit s := fun {y c} hc i hi => by
    obtain ⟨ha, rfl⟩ := Array.getElem?_eq_some_iff.mp hc
    have q := List.all_eq_true.mp ((Array.all_eq_true_iff_forall_mem.mp hF) _ (Array.getElem_mem ha)) i (List.mem_range.mpr hi)
    simpa [Array.getElem?_eq_getElem hi] using q
  obtain ⟨i0, ei0⟩ := is_v hargs
  obtain rfl : w0 = (.int i0) := Option.some.inj ei0
  obtain ⟨q0, r0⟩ := and_e hn
  obtain ⟨q1, r1⟩ := and_e r0
  obtain ⟨q2, r2⟩ := and_e r1
  obtain ⟨q3, r3⟩ := and_e r2
  obtain ⟨q4, r4⟩ := and_e r3
  obtain ⟨q5, r5⟩ := and_e r4
  obtain ⟨q6, r6⟩ := and_e r5
  obtain ⟨q7, r7⟩ := and_e r6
  obtain ⟨q8, r8⟩ := and_e r7
  obtain ⟨q9, r9⟩ := and_e r8
  obtain ⟨q10, r10⟩ := and_e r9
  obtain ⟨q11, r11⟩ := and_e r10
  obtain ⟨q12, r12⟩ := and_e r11
  obtain ⟨q13, r13⟩ := and_e r12
  obtain ⟨q14, r14⟩ := and_e r13
  obtain ⟨q15, r15⟩ := and_e r14
  obtain ⟨q16, r16⟩ := and_e r15
  obtain ⟨q17, r17⟩ := and_e r16
  obtain ⟨q18, r18⟩ := and_e r17
  obtain ⟨q19, r19⟩ := and_e r18
  obtain ⟨q20, r20⟩ := and_e r19
  obtain ⟨q21, r21⟩ := and_e r20
  obtain ⟨q22, r22⟩ := and_e r21
  obtain ⟨q23, r23⟩ := and_e r22
  obtain ⟨q24, r24⟩ := and_e r23
  obtain ⟨q25, r25⟩ := and_e r24
  obtain ⟨q26, r26⟩ := and_e r25
  obtain ⟨q27, r27⟩ := and_e r26
  obtain ⟨q28, r28⟩ := and_e r27
  obtain ⟨q29, r29⟩ := and_e r28
  obtain ⟨q30, r30⟩ := and_e r29
  obtain ⟨q31, r31⟩ := and_e r30
  obtain ⟨q32, r32⟩ := and_e r31
  obtain ⟨q33, r33⟩ := and_e r32
  obtain ⟨q34, r34⟩ := and_e r33
  obtain ⟨q35, r35⟩ := and_e r34
  obtain ⟨q36, r36⟩ := and_e r35
  obtain ⟨q37, r37⟩ := and_e r36
  obtain ⟨q38, r38⟩ := and_e r37
  obtain ⟨q39, r39⟩ := and_e r38
  obtain ⟨q40, r40⟩ := and_e r39
  obtain ⟨q41, r41⟩ := and_e r40
  obtain ⟨q42, r42⟩ := and_e r41
  have q43 := r42
  obtain ⟨G1, eG1⟩ := is_v (Cond.before_iff.mp (hsets _ (List.mem_of_getElem? (i := 1) rfl)))
  have S1 := Sta.start (C := "java/lang/String") (n := "COMPACT_STRINGS") (d := "Z") eG1 (Or.inl (hsets _ (List.mem_of_getElem? (i := 0) rfl)))
  have P1 : ¬ (G1 = (0 : Int32)) := gotF (Cond.eq_ints eG1 (Term.int_eval (0))) (not_v (Cond.before_iff.mp (hsets _ (List.mem_of_getElem? (i := 2) rfl))))
  obtain ⟨u2, eu2, Eu2⟩ := own_exa q0
  obtain ⟨u3, eu3, Eu3⟩ := own_exa q5
  obtain ⟨u4, eu4, Eu4⟩ := own_exa q7
  obtain ⟨u5, eu5⟩ := arr_v q1
  have Eu6 := own_exA eu5 q2
  have v7 := own_ev q4 eu2 (Or.inr rfl)
  have v8 := own_ev q6 eu3 (Or.inr rfl)
  have v9 := own_ev q8 eu4 (Or.inr rfl)
  obtain ⟨kV10, V10⟩ := own_arv (vs := [.ref u2, .ref u3, .ref u4]) (dv := .null) hfit eu5 q1 q3 (by decide) rfl ⟨v7, v8, v9, trivial⟩
  have S11 := Sta.start (C := "com/example/rateloom/rateloom/repricing/RequestStatus") (n := "PENDING") (d := "Lcom/example/rateloom/rateloom/repricing/RequestStatus;") eu2 (Or.inr ⟨(hw _ own_w2), (hw _ own_w3)⟩)
  have S12 := Sta.start (C := "com/example/rateloom/rateloom/repricing/RequestStatus") (n := "COMPLETE") (d := "Lcom/example/rateloom/rateloom/repricing/RequestStatus;") eu3 (Or.inr ⟨(hw _ own_w2), (hw _ own_w49)⟩)
  have S13 := Sta.start (C := "com/example/rateloom/rateloom/repricing/RequestStatus") (n := "ERROR") (d := "Lcom/example/rateloom/rateloom/repricing/RequestStatus;") eu4 (Or.inr ⟨(hw _ own_w2), (hw _ own_w50)⟩)
  have S14 := Sta.start (C := "com/example/rateloom/rateloom/repricing/RequestStatus") (n := "$VALUES") (d := "[Lcom/example/rateloom/rateloom/repricing/RequestStatus;") eu5 (Or.inl (hw _ own_w51))
  obtain ⟨u15, eu15, Eu15⟩ := own_exa q9
  have v16 := own_ev q10 (Term.int_eval (0)) (Or.inl ⟨_, rfl⟩)
  have F17 := own_fld eu15 v16
  obtain ⟨u18, eu18⟩ := arr_v q11
  have F19 := own_fld eu15 eu18
  have v20 := own_ev q24 (Term.int_eval (80)) (Or.inl ⟨_, rfl⟩)
  have v21 := own_ev q25 (Term.int_eval (101)) (Or.inl ⟨_, rfl⟩)
  have v22 := own_ev q26 (Term.int_eval (110)) (Or.inl ⟨_, rfl⟩)
  have v23 := own_ev q27 (Term.int_eval (100)) (Or.inl ⟨_, rfl⟩)
  have v24 := own_ev q28 (Term.int_eval (105)) (Or.inl ⟨_, rfl⟩)
  have v25 := own_ev q29 (Term.int_eval (110)) (Or.inl ⟨_, rfl⟩)
  have v26 := own_ev q30 (Term.int_eval (103)) (Or.inl ⟨_, rfl⟩)
  obtain ⟨kV27, V27⟩ := own_arv (vs := [.int 80, .int 101, .int 110, .int 100, .int 105, .int 110, .int 103]) (dv := (.int 0)) hfit eu18 q11 q12 (by decide) rfl ⟨v20, v21, v22, v23, v24, v25, v26, trivial⟩
  have Y28 : own_Str s s.heap u15 own_csP := ⟨_, _, _, _, _, Eu15, F19, F17, V27, Or.inl ⟨rfl, rfl, rfl, by decide⟩, by decide, by decide⟩
  have F29 := own_fld eu2 eu15
  obtain ⟨u30, eu30, Eu30⟩ := own_exa q13
  have v31 := own_ev q14 (Term.int_eval (0)) (Or.inl ⟨_, rfl⟩)
  have F32 := own_fld eu30 v31
  obtain ⟨u33, eu33⟩ := arr_v q15
  have F34 := own_fld eu30 eu33
  have v35 := own_ev q31 (Term.int_eval (67)) (Or.inl ⟨_, rfl⟩)
  have v36 := own_ev q32 (Term.int_eval (111)) (Or.inl ⟨_, rfl⟩)
  have v37 := own_ev q33 (Term.int_eval (109)) (Or.inl ⟨_, rfl⟩)
  have v38 := own_ev q34 (Term.int_eval (112)) (Or.inl ⟨_, rfl⟩)
  have v39 := own_ev q35 (Term.int_eval (108)) (Or.inl ⟨_, rfl⟩)
  have v40 := own_ev q36 (Term.int_eval (101)) (Or.inl ⟨_, rfl⟩)
  have v41 := own_ev q37 (Term.int_eval (116)) (Or.inl ⟨_, rfl⟩)
  have v42 := own_ev q38 (Term.int_eval (101)) (Or.inl ⟨_, rfl⟩)
  obtain ⟨kV43, V43⟩ := own_arv (vs := [.int 67, .int 111, .int 109, .int 112, .int 108, .int 101, .int 116, .int 101]) (dv := (.int 0)) hfit eu33 q15 q16 (by decide) rfl ⟨v35, v36, v37, v38, v39, v40, v41, v42, trivial⟩
  have Y44 : own_Str s s.heap u30 own_csC := ⟨_, _, _, _, _, Eu30, F34, F32, V43, Or.inl ⟨rfl, rfl, rfl, by decide⟩, by decide, by decide⟩
  have F45 := own_fld eu3 eu30
  obtain ⟨u46, eu46, Eu46⟩ := own_exa q17
  have v47 := own_ev q18 (Term.int_eval (0)) (Or.inl ⟨_, rfl⟩)
  have F48 := own_fld eu46 v47
  obtain ⟨u49, eu49⟩ := arr_v q19
  have F50 := own_fld eu46 eu49
  have v51 := own_ev q39 (Term.int_eval (69)) (Or.inl ⟨_, rfl⟩)
  have v52 := own_ev q40 (Term.int_eval (114)) (Or.inl ⟨_, rfl⟩)
  have v53 := own_ev q41 (Term.int_eval (114)) (Or.inl ⟨_, rfl⟩)
  have v54 := own_ev q42 (Term.int_eval (111)) (Or.inl ⟨_, rfl⟩)
  have v55 := own_ev q43 (Term.int_eval (114)) (Or.inl ⟨_, rfl⟩)
  obtain ⟨kV56, V56⟩ := own_arv (vs := [.int 69, .int 114, .int 114, .int 111, .int 114]) (dv := (.int 0)) hfit eu49 q19 q20 (by decide) rfl ⟨v51, v52, v53, v54, v55, trivial⟩
  have Y57 : own_Str s s.heap u46 own_csE := ⟨_, _, _, _, _, Eu46, F50, F48, V56, Or.inl ⟨rfl, rfl, rfl, by decide⟩, by decide, by decide⟩
  have F58 := own_fld eu4 eu46
  obtain ⟨n, o, h1, h2, h3, _, L, rfl, ⟨rfl, N⟩, hq⟩ := own_rm_law l s _ hw G1 S1 P1 u2 u3 u4 u5 u15 u30 u46 kV10 ⟨S14, Eu6, V10, F29, F45, F58, Y28, Y44, Y57, S11, S12, S13, Eu2, Eu3, Eu4⟩ tables_1 i0 s.heap s.heap.size (Nat.le_refl _) (Old.start s) p e ha hc hk s m _ below hf ((Spec.applies_iff_loose hf).mp happ).1 ⟨rfl, State.Warmed39.refl s, rfl⟩ trivial
  refine ⟨n, _, h1, h2, h3, hpost _ _ _ _ _ _ ⟨Cond.after_iff.mpr rfl, Cond.after_iff.mpr (eq_i res_at (Term.int_eval (1)) rfl), trivial⟩ ⟨hq.1, hq.2.1, (hq.2.2.sift fun y hy => Or.inr (N y hy)).mono (by decide) (by decide)⟩⟩
theorem main_1_1 : Claimed_1_1 := comes_1 fun _ _ _ _ _ _ h hF => ⟨h.1, hF⟩
theorem main_1_2 : Claimed_1_2 := comes_1 fun _ _ _ _ _ _ h hF => ⟨h.2.1, hF⟩
end Jvm.Pilot.@@N@@
namespace Jvm.Pilot.@@N@@
open Jvm Jvm.ClassFile Sem Op Lib Jvm.Free Jvm.Stand Jvm.Pilot.@@N@@.Jvm.D
/-! MADE BY PROGRAM (witnessworld.py) out of the Statement's table words and the real class files: 22 classes; the members and pool entries that the words name. The judged class is class 1, her method 1. -/
namespace start1
open Jvm.ClassFile
def u (s : String) : CpInfo := .utf8 (stringToUtf16 s)
/-- a pool by its gaps: so many unusable entries, then the entry; so many at the end -/
def gap : Nat → List CpInfo → List CpInfo
  | 0, r => r
  | n + 1, r => .unusable :: gap n r
def poolList (es : List (Nat × CpInfo)) (last : Nat) : List CpInfo := es.foldr (fun e r => gap e.1 (e.2 :: r)) (gap last [])
def pool (es : List (Nat × CpInfo)) (last : Nat) : Array CpInfo := ⟨poolList es last⟩
def fileOf (pool : Array CpInfo) (this : Nat) (attrs : Array Attribute := #[]) (ms : Array MethodInfo := #[]) (fl : Nat := 33) (sup : Nat := 0) (ifs : Array Nat := #[]) (fds : Array FieldInfo := #[]) : ClassFile where
  minorVersion := 0
  majorVersion := 65
  constantPool := pool
  accessFlags := fl
  thisClass := this
  superClass := sup
  interfaces := ifs
  fields := fds
  methods := ms
  attributes := attrs
def plain (name : String) (sup : Option ClassId) : Class where
  name := name
  kind := .ordinary
  loader := none
  accessFlags := 33
  super := sup
  interfaces := #[]
  cf := none
  fields := #[]
  methods := #[]
  instanceTypes := #[]
  staticTypes := #[]
  resolved := #[]
  callSites := []
  init := .initialized
  statics := none
  mirror := none

def pool0 : Array CpInfo := pool [(5, u "<init>"), (0, u "()V"), (1, .class_ 10), (1, u "java/lang/Object"), (85, u "clone"), (0, u "()Ljava/lang/Object;")] 26

def k0c0 : Code := { maxStack := 0, maxLocals := 1, code := object_method_1_code, exceptionTable := #[], attributes := #[] }
def k0m0 : Method := { name := "<init>", desc := "()V", sig := { parameters := [], returnType := none }, accessFlags := 1, code := some k0c0 }
def k0m1 : Method := { name := "clone", desc := "()Ljava/lang/Object;", sig := { parameters := [], returnType := some (.object "java/lang/Object") }, accessFlags := 260, code := none }
/-- java/lang/Object -/
def k0 : Class := { plain "java/lang/Object" none with
  accessFlags := 33
  interfaces := #[]
  cf := some (fileOf pool0 8 #[] #[{ accessFlags := 1, nameIndex := 5, descriptorIndex := 6, attributes := #[] }, { accessFlags := 260, nameIndex := 96, descriptorIndex := 97, attributes := #[] }] 33 0 #[] #[])
  fields := #[]
  methods := #[k0m0, k0m1]
  instanceTypes := #[]
  staticTypes := #[]
  resolved := Array.replicate 124 none
  statics := none }

def pool1 : Array CpInfo := pool [(2, .class_ 4), (1, u "java/lang/Object"), (0, u "<init>"), (0, u "()V"), (0, .integer 2147483647), (0, .fieldref 9 10), (0, .class_ 11), (0, .nameAndType 12 13), (0, u "com/example/rateloom/rateloom/repricing/RequestStatus"), (0, u "PENDING"), (0, u "Lcom/example/rateloom/rateloom/repricing/RequestStatus;"), (0, .fieldref 9 15), (0, .nameAndType 16 13), (0, u "COMPLETE"), (0, .fieldref 9 18), (0, .nameAndType 19 13), (0, u "ERROR"), (0, .class_ 21), (0, u "java/lang/String"), (0, .methodref 20 23), (0, .nameAndType 5 24), (0, u "([C)V"), (0, .methodref 9 26), (0, .nameAndType 27 28), (0, u "ofLabel"), (0, u "(Ljava/lang/String;)Lcom/example/rateloom/rateloom/repricing/RequestStatus;"), (0, .methodref 9 30), (0, .nameAndType 31 32), (0, u "label"), (0, u "()Ljava/lang/String;"), (0, .methodref 20 34), (0, .nameAndType 35 36), (0, u "equals"), (0, u "(Ljava/lang/Object;)Z"), (0, .class_ 38), (0, u "com/example/rateloom/rateloom/repricing/RequestStatusOfLabelPinLaw"), (2, u "law"), (0, u "(I)Z")] 5

def k1m0 : Method := { name := "<init>", desc := "()V", sig := { parameters := [], returnType := none }, accessFlags := 1, code := none }
def k1c1 : Code := { maxStack := 4, maxLocals := 7, code := code, exceptionTable := #[], attributes := #[] }
def k1m1 : Method := { name := "law", desc := "(I)Z", sig := { parameters := [.int], returnType := some .boolean }, accessFlags := 9, code := some k1c1 }
/-- com/example/rateloom/rateloom/repricing/RequestStatusOfLabelPinLaw -/
def k1 : Class := { plain "com/example/rateloom/rateloom/repricing/RequestStatusOfLabelPinLaw" (some 0) with
  accessFlags := 49
  interfaces := #[]
  cf := some (fileOf pool1 37 #[] #[{ accessFlags := 1, nameIndex := 5, descriptorIndex := 6, attributes := #[] }, { accessFlags := 9, nameIndex := 41, descriptorIndex := 42, attributes := #[] }] 49 2 #[] #[])
  fields := #[]
  methods := #[k1m0, k1m1]
  instanceTypes := #[]
  staticTypes := #[]
  resolved := Array.replicate 48 none
  statics := none }

def pool2 : Array CpInfo := pool [(1, .class_ 2), (0, u "java/lang/constant/Constable"), (0, .class_ 4), (0, u "java/lang/Object")] 6

/-- java/lang/constant/Constable -/
def k2 : Class := { plain "java/lang/constant/Constable" (some 0) with
  accessFlags := 1537
  interfaces := #[]
  cf := some (fileOf pool2 1 #[] #[] 1537 3 #[] #[])
  fields := #[]
  methods := #[]
  instanceTypes := #[]
  staticTypes := #[]
  resolved := Array.replicate 11 none
  statics := none }

def pool3 : Array CpInfo := pool [(1, .class_ 2), (0, u "java/lang/Comparable"), (0, .class_ 4), (0, u "java/lang/Object")] 7

/-- java/lang/Comparable -/
def k3 : Class := { plain "java/lang/Comparable" (some 0) with
  accessFlags := 1537
  interfaces := #[]
  cf := some (fileOf pool3 1 #[] #[] 1537 3 #[] #[])
  fields := #[]
  methods := #[]
  instanceTypes := #[]
  staticTypes := #[]
  resolved := Array.replicate 12 none
  statics := none }

def pool4 : Array CpInfo := pool [(1, .class_ 2), (0, u "java/io/Serializable"), (0, .class_ 4), (0, u "java/lang/Object")] 2

/-- java/io/Serializable -/
def k4 : Class := { plain "java/io/Serializable" (some 0) with
  accessFlags := 1537
  interfaces := #[]
  cf := some (fileOf pool4 1 #[] #[] 1537 3 #[] #[])
  fields := #[]
  methods := #[]
  instanceTypes := #[]
  staticTypes := #[]
  resolved := Array.replicate 7 none
  statics := none }

def pool5 : Array CpInfo := pool [(2, .class_ 4), (1, u "java/lang/Enum"), (0, u "name"), (0, u "Ljava/lang/String;"), (2, u "ordinal"), (0, u "I"), (1, .class_ 14), (1, u "java/lang/Object"), (4, u "hash"), (86, .class_ 108), (1, u "java/lang/Enum$EnumDesc"), (2, .class_ 112), (0, u "java/lang/constant/Constable"), (0, .class_ 114), (0, u "java/lang/Comparable"), (0, .class_ 116), (0, u "java/io/Serializable")] 87

/-- java/lang/Enum -/
def k5 : Class := { plain "java/lang/Enum" (some 0) with
  accessFlags := 1057
  interfaces := #[2, 3, 4]
  cf := some (fileOf pool5 2 #[.nestMembers #[106]] #[] 1057 12 #[111, 113, 115] #[{ accessFlags := 18, nameIndex := 5, descriptorIndex := 6, attributes := #[] }, { accessFlags := 18, nameIndex := 9, descriptorIndex := 10, attributes := #[] }, { accessFlags := 2, nameIndex := 19, descriptorIndex := 10, attributes := #[] }])
  fields := #[{ name := "name", type := (.object "java/lang/String"), accessFlags := 18, slot := 0, constantValue := 0 }, { name := "ordinal", type := .int, accessFlags := 18, slot := 1, constantValue := 0 }, { name := "hash", type := .int, accessFlags := 2, slot := 2, constantValue := 0 }]
  methods := #[]
  instanceTypes := #[(.object "java/lang/String"), .int, .int]
  staticTypes := #[]
  resolved := Array.replicate 204 none
  statics := none }

def pool6 : Array CpInfo := pool [(1, .class_ 2), (0, u "com/example/rateloom/rateloom/repricing/RequestStatus"), (2, u "PENDING"), (0, u "Lcom/example/rateloom/rateloom/repricing/RequestStatus;"), (2, u "COMPLETE"), (2, u "ERROR"), (0, .fieldref 1 14), (0, .nameAndType 15 16), (0, u "$VALUES"), (0, u "[Lcom/example/rateloom/rateloom/repricing/RequestStatus;"), (0, .methodref 18 19), (0, .class_ 16), (0, .nameAndType 20 21), (0, u "clone"), (0, u "()Ljava/lang/Object;"), (1, .class_ 25), (1, u "java/lang/Enum"), (6, .fieldref 1 33), (0, .nameAndType 34 35), (0, u "label"), (0, u "Ljava/lang/String;"), (0, .methodref 1 37), (0, .nameAndType 38 39), (0, u "values"), (0, u "()[Lcom/example/rateloom/rateloom/repricing/RequestStatus;"), (0, .methodref 41 42), (0, .class_ 43), (0, .nameAndType 44 45), (0, u "java/lang/String"), (0, u "equals"), (0, u "(Ljava/lang/Object;)Z"), (26, u "(Ljava/lang/String;)Lcom/example/rateloom/rateloom/repricing/RequestStatus;"), (2, u "ofLabel"), (1, u "()Ljava/lang/String;")] 20

def k6c0 : Code := { maxStack := 1, maxLocals := 0, code := prog_49_method_1_code, exceptionTable := #[], attributes := #[] }
def k6m0 : Method := { name := "values", desc := "()[Lcom/example/rateloom/rateloom/repricing/RequestStatus;", sig := { parameters := [], returnType := some (.array (.object "com/example/rateloom/rateloom/repricing/RequestStatus")) }, accessFlags := 9, code := some k6c0 }
def k6c1 : Code := { maxStack := 3, maxLocals := 5, code := prog_49_method_4_code, exceptionTable := #[], attributes := #[] }
def k6m1 : Method := { name := "ofLabel", desc := "(Ljava/lang/String;)Lcom/example/rateloom/rateloom/repricing/RequestStatus;", sig := { parameters := [(.object "java/lang/String")], returnType := some (.object "com/example/rateloom/rateloom/repricing/RequestStatus") }, accessFlags := 9, code := some k6c1 }
def k6c2 : Code := { maxStack := 1, maxLocals := 1, code := prog_49_method_5_code, exceptionTable := #[], attributes := #[] }
def k6m2 : Method := { name := "label", desc := "()Ljava/lang/String;", sig := { parameters := [], returnType := some (.object "java/lang/String") }, accessFlags := 1, code := some k6c2 }
/-- com/example/rateloom/rateloom/repricing/RequestStatus -/
def k6 : Class := { plain "com/example/rateloom/rateloom/repricing/RequestStatus" (some 5) with
  accessFlags := 16433
  interfaces := #[]
  cf := some (fileOf pool6 1 #[] #[{ accessFlags := 9, nameIndex := 38, descriptorIndex := 39, attributes := #[] }, { accessFlags := 9, nameIndex := 75, descriptorIndex := 72, attributes := #[] }, { accessFlags := 1, nameIndex := 34, descriptorIndex := 77, attributes := #[] }] 16433 23 #[] #[{ accessFlags := 16409, nameIndex := 5, descriptorIndex := 6, attributes := #[] }, { accessFlags := 16409, nameIndex := 9, descriptorIndex := 6, attributes := #[] }, { accessFlags := 16409, nameIndex := 12, descriptorIndex := 6, attributes := #[] }, { accessFlags := 18, nameIndex := 34, descriptorIndex := 35, attributes := #[] }, { accessFlags := 4122, nameIndex := 15, descriptorIndex := 16, attributes := #[] }])
  fields := #[{ name := "PENDING", type := (.object "com/example/rateloom/rateloom/repricing/RequestStatus"), accessFlags := 16409, slot := 0, constantValue := 0 }, { name := "COMPLETE", type := (.object "com/example/rateloom/rateloom/repricing/RequestStatus"), accessFlags := 16409, slot := 1, constantValue := 0 }, { name := "ERROR", type := (.object "com/example/rateloom/rateloom/repricing/RequestStatus"), accessFlags := 16409, slot := 2, constantValue := 0 }, { name := "label", type := (.object "java/lang/String"), accessFlags := 18, slot := 3, constantValue := 0 }, { name := "$VALUES", type := (.array (.object "com/example/rateloom/rateloom/repricing/RequestStatus")), accessFlags := 4122, slot := 3, constantValue := 0 }]
  methods := #[k6m0, k6m1, k6m2]
  instanceTypes := #[(.object "java/lang/String"), .int, .int, (.object "java/lang/String")]
  staticTypes := #[(.object "com/example/rateloom/rateloom/repricing/RequestStatus"), (.object "com/example/rateloom/rateloom/repricing/RequestStatus"), (.object "com/example/rateloom/rateloom/repricing/RequestStatus"), (.array (.object "com/example/rateloom/rateloom/repricing/RequestStatus"))]
  resolved := Array.replicate 98 none
  statics := some 0 }

def pool7 : Array CpInfo := pool [(2, .class_ 4), (1, u "java/lang/CharSequence"), (42, .class_ 48), (0, u "java/lang/CharSequence$1CodePointIterator"), (10, .class_ 60), (0, u "java/lang/CharSequence$1CharIterator"), (5, .class_ 67), (0, u "java/lang/Object")] 63

/-- java/lang/CharSequence -/
def k7 : Class := { plain "java/lang/CharSequence" (some 0) with
  accessFlags := 1537
  interfaces := #[]
  cf := some (fileOf pool7 2 #[.nestMembers #[47, 59]] #[] 1537 66 #[] #[])
  fields := #[]
  methods := #[]
  instanceTypes := #[]
  staticTypes := #[]
  resolved := Array.replicate 131 none
  statics := none }

def pool8 : Array CpInfo := pool [(1, .class_ 2), (0, u "java/lang/constant/ConstantDesc"), (0, .class_ 4), (0, u "java/lang/Object")] 32

/-- java/lang/constant/ConstantDesc -/
def k8 : Class := { plain "java/lang/constant/ConstantDesc" (some 0) with
  accessFlags := 1537
  interfaces := #[]
  cf := some (fileOf pool8 1 #[] #[] 1537 3 #[] #[])
  fields := #[]
  methods := #[]
  instanceTypes := #[]
  staticTypes := #[]
  resolved := Array.replicate 37 none
  statics := none }

def pool9 : Array CpInfo := pool [(1, .methodref 2 3), (0, .class_ 4), (0, .nameAndType 5 6), (0, u "java/lang/Object"), (0, u "<init>"), (0, u "()V"), (2, .fieldref 10 11), (0, .class_ 12), (0, .nameAndType 13 14), (0, u "java/lang/String"), (0, u "value"), (0, u "[B"), (0, .fieldref 10 16), (0, .nameAndType 17 18), (0, u "coder"), (0, u "B"), (2, u "hash"), (0, u "I"), (2, u "hashIsZero"), (0, u "Z"), (0, .methodref 10 28), (0, .nameAndType 5 29), (0, u "([CIILjava/lang/Void;)V"), (8, .fieldref 10 39), (0, .nameAndType 40 26), (0, u "COMPACT_STRINGS"), (1, .class_ 44), (1, u "java/lang/StringUTF16"), (0, u "compress"), (1, .methodref 42 48), (0, .nameAndType 49 50), (0, u "coderFromArrayLen"), (0, u "([BI)B"), (56, .class_ 109), (1, u "java/lang/StringLatin1"), (67, .methodref 42 178), (0, .nameAndType 45 179), (0, u "([CII)[B"), (361, .methodref 107 542), (0, .nameAndType 543 544), (0, u "equals"), (0, u "([B[B)Z"), (28, u "(Ljava/lang/Object;)Z"), (1, .class_ 576), (0, u "java/lang/CharSequence"), (22, u "CASE_INSENSITIVE_ORDER"), (0, u "Ljava/util/Comparator;"), (409, u "([C)V"), (90, u "serialPersistentFields"), (0, u "[Ljava/io/ObjectStreamField;"), (0, .class_ 1104), (0, u "java/lang/String$CaseInsensitiveComparator"), (1, .class_ 1107), (0, u "java/io/Serializable"), (0, .class_ 1109), (0, u "java/lang/Comparable"), (0, .class_ 1111), (0, u "java/lang/constant/Constable"), (0, .class_ 1113), (0, u "java/lang/constant/ConstantDesc"), (2, u "serialVersionUID"), (0, u "J"), (3, u "REPL"), (0, u "C"), (2, u "LATIN1"), (1, u "UTF16")] 323

def k9m0 : Method := { name := "<init>", desc := "()V", sig := { parameters := [], returnType := none }, accessFlags := 1, code := none }
def k9c1 : Code := { maxStack := 5, maxLocals := 2, code := jdk_42_method_3_code, exceptionTable := #[], attributes := #[] }
def k9m1 : Method := { name := "<init>", desc := "([C)V", sig := { parameters := [(.array .char)], returnType := none }, accessFlags := 1, code := some k9c1 }
def k9c2 : Code := { maxStack := 2, maxLocals := 3, code := jdk_42_method_66_code, exceptionTable := #[], attributes := #[] }
def k9m2 : Method := { name := "equals", desc := "(Ljava/lang/Object;)Z", sig := { parameters := [(.object "java/lang/Object")], returnType := some .boolean }, accessFlags := 1, code := some k9c2 }
def k9c3 : Code := { maxStack := 4, maxLocals := 6, code := jdk_42_method_149_code, exceptionTable := #[], attributes := #[] }
def k9m3 : Method := { name := "<init>", desc := "([CIILjava/lang/Void;)V", sig := { parameters := [(.array .char), .int, .int, (.object "java/lang/Void")], returnType := none }, accessFlags := 2, code := some k9c3 }
/-- java/lang/String -/
def k9 : Class := { plain "java/lang/String" (some 0) with
  accessFlags := 49
  interfaces := #[4, 3, 7, 2, 8]
  cf := some (fileOf pool9 10 #[.nestMembers #[1103]] #[{ accessFlags := 1, nameIndex := 5, descriptorIndex := 6, attributes := #[] }, { accessFlags := 1, nameIndex := 5, descriptorIndex := 1010, attributes := #[] }, { accessFlags := 1, nameIndex := 543, descriptorIndex := 573, attributes := #[] }, { accessFlags := 2, nameIndex := 5, descriptorIndex := 29, attributes := #[] }] 49 2 #[1106, 1108, 575, 1110, 1112] #[{ accessFlags := 18, nameIndex := 13, descriptorIndex := 14, attributes := #[] }, { accessFlags := 18, nameIndex := 17, descriptorIndex := 18, attributes := #[] }, { accessFlags := 2, nameIndex := 21, descriptorIndex := 22, attributes := #[] }, { accessFlags := 2, nameIndex := 25, descriptorIndex := 26, attributes := #[] }, { accessFlags := 26, nameIndex := 1116, descriptorIndex := 1117, attributes := #[] }, { accessFlags := 24, nameIndex := 40, descriptorIndex := 26, attributes := #[] }, { accessFlags := 26, nameIndex := 1101, descriptorIndex := 1102, attributes := #[] }, { accessFlags := 26, nameIndex := 1121, descriptorIndex := 1122, attributes := #[] }, { accessFlags := 25, nameIndex := 599, descriptorIndex := 600, attributes := #[] }, { accessFlags := 24, nameIndex := 1125, descriptorIndex := 18, attributes := #[] }, { accessFlags := 24, nameIndex := 1127, descriptorIndex := 18, attributes := #[] }])
  fields := #[{ name := "value", type := (.array .byte), accessFlags := 18, slot := 0, constantValue := 0 }, { name := "coder", type := .byte, accessFlags := 18, slot := 1, constantValue := 0 }, { name := "hash", type := .int, accessFlags := 2, slot := 2, constantValue := 0 }, { name := "hashIsZero", type := .boolean, accessFlags := 2, slot := 3, constantValue := 0 }, { name := "serialVersionUID", type := .long, accessFlags := 26, slot := 0, constantValue := 0 }, { name := "COMPACT_STRINGS", type := .boolean, accessFlags := 24, slot := 1, constantValue := 0 }, { name := "serialPersistentFields", type := (.array (.object "java/io/ObjectStreamField")), accessFlags := 26, slot := 2, constantValue := 0 }, { name := "REPL", type := .char, accessFlags := 26, slot := 3, constantValue := 0 }, { name := "CASE_INSENSITIVE_ORDER", type := (.object "java/util/Comparator"), accessFlags := 25, slot := 4, constantValue := 0 }, { name := "LATIN1", type := .byte, accessFlags := 24, slot := 5, constantValue := 0 }, { name := "UTF16", type := .byte, accessFlags := 24, slot := 6, constantValue := 0 }]
  methods := #[k9m0, k9m1, k9m2, k9m3]
  instanceTypes := #[(.array .byte), .byte, .int, .boolean]
  staticTypes := #[.long, .boolean, (.array (.object "java/io/ObjectStreamField")), .char, (.object "java/util/Comparator"), .byte, .byte]
  resolved := Array.replicate 1451 none
  statics := some 1 }

def pool10 : Array CpInfo := pool [(6, .class_ 8), (1, u "java/lang/Object"), (0, u "<init>"), (0, u "()V"), (1, .class_ 14), (1, u "java/lang/StringUTF16"), (31, u "$assertionsDisabled"), (0, u "Z"), (13, u "HI_BYTE_SHIFT"), (0, u "I"), (2, u "LO_BYTE_SHIFT"), (49, .methodref 12 116), (0, .nameAndType 117 118), (0, u "compress"), (0, u "([CI[BII)I"), (3, u "([CII)[B"), (138, u "coderFromArrayLen"), (0, u "([BI)B"), (106, .class_ 371), (1, u "java/lang/StringUTF16$LinesSpliterator"), (58, u "MAX_LENGTH"), (196, .class_ 628), (0, u "java/lang/StringUTF16$CodePointsSpliterator"), (0, .class_ 630), (0, u "java/lang/StringUTF16$CharsSpliterator")] 4

def k10m0 : Method := { name := "<init>", desc := "()V", sig := { parameters := [], returnType := none }, accessFlags := 0, code := none }
def k10c1 : Code := { maxStack := 2, maxLocals := 2, code := jdk_52_method_15_code, exceptionTable := #[], attributes := #[] }
def k10m1 : Method := { name := "coderFromArrayLen", desc := "([BI)B", sig := { parameters := [(.array .byte), .int], returnType := some .byte }, accessFlags := 8, code := some k10c1 }
def k10c2 : Code := { maxStack := 5, maxLocals := 6, code := jdk_52_method_16_code, exceptionTable := #[], attributes := #[] }
def k10m2 : Method := { name := "compress", desc := "([CII)[B", sig := { parameters := [(.array .char), .int, .int], returnType := some (.array .byte) }, accessFlags := 9, code := some k10c2 }
def k10c3 : Code := { maxStack := 3, maxLocals := 7, code := jdk_52_method_21_code, exceptionTable := #[], attributes := #[] }
def k10m3 : Method := { name := "compress", desc := "([CI[BII)I", sig := { parameters := [(.array .char), .int, (.array .byte), .int, .int], returnType := some .int }, accessFlags := 9, code := some k10c3 }
/-- java/lang/StringUTF16 -/
def k10 : Class := { plain "java/lang/StringUTF16" (some 0) with
  accessFlags := 48
  interfaces := #[]
  cf := some (fileOf pool10 12 #[.nestMembers #[627, 629, 369]] #[{ accessFlags := 0, nameIndex := 9, descriptorIndex := 10, attributes := #[] }, { accessFlags := 8, nameIndex := 261, descriptorIndex := 262, attributes := #[] }, { accessFlags := 9, nameIndex := 117, descriptorIndex := 122, attributes := #[] }, { accessFlags := 9, nameIndex := 117, descriptorIndex := 118, attributes := #[] }] 48 6 #[] #[{ accessFlags := 26, nameIndex := 61, descriptorIndex := 62, attributes := #[] }, { accessFlags := 26, nameIndex := 65, descriptorIndex := 62, attributes := #[] }, { accessFlags := 24, nameIndex := 430, descriptorIndex := 62, attributes := #[] }, { accessFlags := 4120, nameIndex := 46, descriptorIndex := 47, attributes := #[] }])
  fields := #[{ name := "HI_BYTE_SHIFT", type := .int, accessFlags := 26, slot := 0, constantValue := 0 }, { name := "LO_BYTE_SHIFT", type := .int, accessFlags := 26, slot := 1, constantValue := 0 }, { name := "MAX_LENGTH", type := .int, accessFlags := 24, slot := 2, constantValue := 0 }, { name := "$assertionsDisabled", type := .boolean, accessFlags := 4120, slot := 3, constantValue := 0 }]
  methods := #[k10m0, k10m1, k10m2, k10m3]
  instanceTypes := #[]
  staticTypes := #[.int, .int, .int, .boolean]
  resolved := Array.replicate 635 none
  statics := none }

def pool11 : Array CpInfo := pool [(1, .class_ 2), (0, u "java/lang/Cloneable"), (0, .class_ 4), (0, u "java/lang/Object")] 2

/-- java/lang/Cloneable -/
def k11 : Class := { plain "java/lang/Cloneable" (some 0) with
  accessFlags := 1537
  interfaces := #[]
  cf := some (fileOf pool11 1 #[] #[] 1537 3 #[] #[])
  fields := #[]
  methods := #[]
  instanceTypes := #[]
  staticTypes := #[]
  resolved := Array.replicate 7 none
  statics := none }

def pool12 : Array CpInfo := pool [(4, .class_ 6), (1, u "java/lang/Object"), (0, u "<init>"), (0, u "()V"), (5, .class_ 16), (1, u "java/lang/StringLatin1"), (104, u "$assertionsDisabled"), (0, u "Z"), (98, .class_ 223), (1, u "java/lang/StringLatin1$LinesSpliterator"), (57, u "equals"), (0, u "([B[B)Z"), (107, .class_ 391), (0, u "java/lang/StringLatin1$CharsSpliterator")] 3

def k12m0 : Method := { name := "<init>", desc := "()V", sig := { parameters := [], returnType := none }, accessFlags := 0, code := none }
def k12c1 : Code := { maxStack := 3, maxLocals := 3, code := jdk_43_method_13_code, exceptionTable := #[], attributes := #[] }
def k12m1 : Method := { name := "equals", desc := "([B[B)Z", sig := { parameters := [(.array .byte), (.array .byte)], returnType := some .boolean }, accessFlags := 9, code := some k12c1 }
/-- java/lang/StringLatin1 -/
def k12 : Class := { plain "java/lang/StringLatin1" (some 0) with
  accessFlags := 48
  interfaces := #[]
  cf := some (fileOf pool12 14 #[.nestMembers #[390, 221]] #[{ accessFlags := 0, nameIndex := 7, descriptorIndex := 8, attributes := #[] }, { accessFlags := 9, nameIndex := 281, descriptorIndex := 282, attributes := #[] }] 48 4 #[] #[{ accessFlags := 4120, nameIndex := 121, descriptorIndex := 122, attributes := #[] }])
  fields := #[{ name := "$assertionsDisabled", type := .boolean, accessFlags := 4120, slot := 0, constantValue := 0 }]
  methods := #[k12m0, k12m1]
  instanceTypes := #[]
  staticTypes := #[.boolean]
  resolved := Array.replicate 395 none
  statics := none }

def pool13 : Array CpInfo := pool [(2, .class_ 4), (1, u "java/lang/Object"), (0, u "<init>"), (0, u "()V"), (17, .class_ 26), (1, u "jdk/internal/util/Preconditions"), (28, .class_ 56), (0, u "jdk/internal/util/Preconditions$4"), (57, .class_ 115), (0, u "jdk/internal/util/Preconditions$1"), (7, u "SIOOBE_FORMATTER"), (0, u "Ljava/util/function/BiFunction;"), (0, .class_ 126), (0, u "jdk/internal/util/Preconditions$2"), (3, u "AIOOBE_FORMATTER"), (0, .class_ 132), (0, u "jdk/internal/util/Preconditions$3"), (3, u "IOOBE_FORMATTER")] 57

def k13m0 : Method := { name := "<init>", desc := "()V", sig := { parameters := [], returnType := none }, accessFlags := 1, code := none }
/-- jdk/internal/util/Preconditions -/
def k13 : Class := { plain "jdk/internal/util/Preconditions" (some 0) with
  accessFlags := 33
  interfaces := #[]
  cf := some (fileOf pool13 24 #[.nestMembers #[55, 131, 125, 114]] #[{ accessFlags := 1, nameIndex := 5, descriptorIndex := 6, attributes := #[] }] 33 2 #[] #[{ accessFlags := 25, nameIndex := 123, descriptorIndex := 124, attributes := #[] }, { accessFlags := 25, nameIndex := 130, descriptorIndex := 124, attributes := #[] }, { accessFlags := 25, nameIndex := 136, descriptorIndex := 124, attributes := #[] }])
  fields := #[{ name := "SIOOBE_FORMATTER", type := (.object "java/util/function/BiFunction"), accessFlags := 25, slot := 0, constantValue := 0 }, { name := "AIOOBE_FORMATTER", type := (.object "java/util/function/BiFunction"), accessFlags := 25, slot := 1, constantValue := 0 }, { name := "IOOBE_FORMATTER", type := (.object "java/util/function/BiFunction"), accessFlags := 25, slot := 2, constantValue := 0 }]
  methods := #[k13m0]
  instanceTypes := #[]
  staticTypes := #[(.object "java/util/function/BiFunction"), (.object "java/util/function/BiFunction"), (.object "java/util/function/BiFunction")]
  resolved := Array.replicate 194 none
  statics := some 2 }

def pool14 : Array CpInfo := pool [(9, u "<init>"), (6, .class_ 18), (1, u "java/lang/Object"), (0, u "()V"), (1, .class_ 23), (1, u "jdk/internal/util/ArraysSupport"), (0, u "LOG2_ARRAY_LONG_INDEX_SCALE"), (0, u "I"), (2, u "U"), (0, u "Ljdk/internal/misc/Unsafe;"), (8, u "BIG_ENDIAN"), (0, u "Z"), (8, u "LOG2_BYTE_BIT_SIZE"), (4, u "LOG2_ARRAY_INT_INDEX_SCALE"), (54, u "JLA"), (0, u "Ljdk/internal/access/JavaLangAccess;"), (11, u "LOG2_ARRAY_BOOLEAN_INDEX_SCALE"), (9, u "LOG2_ARRAY_BYTE_INDEX_SCALE"), (5, u "LOG2_ARRAY_CHAR_INDEX_SCALE"), (5, u "LOG2_ARRAY_SHORT_INDEX_SCALE"), (18, u "LOG2_ARRAY_FLOAT_INDEX_SCALE"), (24, u "LOG2_ARRAY_DOUBLE_INDEX_SCALE"), (89, u "T_BOOLEAN"), (2, u "T_CHAR"), (1, u "T_FLOAT"), (1, u "T_DOUBLE"), (1, u "T_BYTE"), (1, u "T_SHORT"), (1, u "T_INT"), (1, u "T_LONG"), (1, u "SOFT_MAX_ARRAY_LENGTH")] 83

def k14m0 : Method := { name := "<init>", desc := "()V", sig := { parameters := [], returnType := none }, accessFlags := 2, code := none }
/-- jdk/internal/util/ArraysSupport -/
def k14 : Class := { plain "jdk/internal/util/ArraysSupport" (some 0) with
  accessFlags := 33
  interfaces := #[]
  cf := some (fileOf pool14 21 #[] #[{ accessFlags := 2, nameIndex := 9, descriptorIndex := 19, attributes := #[] }] 33 16 #[] #[{ accessFlags := 24, nameIndex := 28, descriptorIndex := 29, attributes := #[] }, { accessFlags := 26, nameIndex := 38, descriptorIndex := 39, attributes := #[] }, { accessFlags := 25, nameIndex := 121, descriptorIndex := 25, attributes := #[] }, { accessFlags := 25, nameIndex := 131, descriptorIndex := 25, attributes := #[] }, { accessFlags := 25, nameIndex := 137, descriptorIndex := 25, attributes := #[] }, { accessFlags := 25, nameIndex := 143, descriptorIndex := 25, attributes := #[] }, { accessFlags := 25, nameIndex := 53, descriptorIndex := 25, attributes := #[] }, { accessFlags := 25, nameIndex := 24, descriptorIndex := 25, attributes := #[] }, { accessFlags := 25, nameIndex := 162, descriptorIndex := 25, attributes := #[] }, { accessFlags := 25, nameIndex := 187, descriptorIndex := 25, attributes := #[] }, { accessFlags := 26, nameIndex := 48, descriptorIndex := 25, attributes := #[] }, { accessFlags := 25, nameIndex := 277, descriptorIndex := 25, attributes := #[] }, { accessFlags := 25, nameIndex := 280, descriptorIndex := 25, attributes := #[] }, { accessFlags := 25, nameIndex := 282, descriptorIndex := 25, attributes := #[] }, { accessFlags := 25, nameIndex := 284, descriptorIndex := 25, attributes := #[] }, { accessFlags := 25, nameIndex := 286, descriptorIndex := 25, attributes := #[] }, { accessFlags := 25, nameIndex := 288, descriptorIndex := 25, attributes := #[] }, { accessFlags := 25, nameIndex := 290, descriptorIndex := 25, attributes := #[] }, { accessFlags := 25, nameIndex := 292, descriptorIndex := 25, attributes := #[] }, { accessFlags := 26, nameIndex := 108, descriptorIndex := 109, attributes := #[] }, { accessFlags := 25, nameIndex := 294, descriptorIndex := 25, attributes := #[] }])
  fields := #[{ name := "U", type := (.object "jdk/internal/misc/Unsafe"), accessFlags := 24, slot := 0, constantValue := 0 }, { name := "BIG_ENDIAN", type := .boolean, accessFlags := 26, slot := 1, constantValue := 0 }, { name := "LOG2_ARRAY_BOOLEAN_INDEX_SCALE", type := .int, accessFlags := 25, slot := 2, constantValue := 0 }, { name := "LOG2_ARRAY_BYTE_INDEX_SCALE", type := .int, accessFlags := 25, slot := 3, constantValue := 0 }, { name := "LOG2_ARRAY_CHAR_INDEX_SCALE", type := .int, accessFlags := 25, slot := 4, constantValue := 0 }, { name := "LOG2_ARRAY_SHORT_INDEX_SCALE", type := .int, accessFlags := 25, slot := 5, constantValue := 0 }, { name := "LOG2_ARRAY_INT_INDEX_SCALE", type := .int, accessFlags := 25, slot := 6, constantValue := 0 }, { name := "LOG2_ARRAY_LONG_INDEX_SCALE", type := .int, accessFlags := 25, slot := 7, constantValue := 0 }, { name := "LOG2_ARRAY_FLOAT_INDEX_SCALE", type := .int, accessFlags := 25, slot := 8, constantValue := 0 }, { name := "LOG2_ARRAY_DOUBLE_INDEX_SCALE", type := .int, accessFlags := 25, slot := 9, constantValue := 0 }, { name := "LOG2_BYTE_BIT_SIZE", type := .int, accessFlags := 26, slot := 10, constantValue := 0 }, { name := "T_BOOLEAN", type := .int, accessFlags := 25, slot := 11, constantValue := 0 }, { name := "T_CHAR", type := .int, accessFlags := 25, slot := 12, constantValue := 0 }, { name := "T_FLOAT", type := .int, accessFlags := 25, slot := 13, constantValue := 0 }, { name := "T_DOUBLE", type := .int, accessFlags := 25, slot := 14, constantValue := 0 }, { name := "T_BYTE", type := .int, accessFlags := 25, slot := 15, constantValue := 0 }, { name := "T_SHORT", type := .int, accessFlags := 25, slot := 16, constantValue := 0 }, { name := "T_INT", type := .int, accessFlags := 25, slot := 17, constantValue := 0 }, { name := "T_LONG", type := .int, accessFlags := 25, slot := 18, constantValue := 0 }, { name := "JLA", type := (.object "jdk/internal/access/JavaLangAccess"), accessFlags := 26, slot := 19, constantValue := 0 }, { name := "SOFT_MAX_ARRAY_LENGTH", type := .int, accessFlags := 25, slot := 20, constantValue := 0 }]
  methods := #[k14m0]
  instanceTypes := #[]
  staticTypes := #[(.object "jdk/internal/misc/Unsafe"), .boolean, .int, .int, .int, .int, .int, .int, .int, .int, .int, .int, .int, .int, .int, .int, .int, .int, .int, (.object "jdk/internal/access/JavaLangAccess"), .int]
  resolved := Array.replicate 378 none
  statics := none }

/-- the primitive byte -/
def k15 : Class := { plain "byte" none with kind := .primitive 'B', accessFlags := 0x411 }
/-- [B -/
def k16 : Class := { plain "[B" (some 0) with kind := .array 15 .byte, interfaces := #[11, 4], accessFlags := 1041 }

/-- the primitive char -/
def k17 : Class := { plain "char" none with kind := .primitive 'C', accessFlags := 0x411 }
/-- [C -/
def k18 : Class := { plain "[C" (some 0) with kind := .array 17 .char, interfaces := #[11, 4], accessFlags := 1041 }

/-- the primitive int -/
def k19 : Class := { plain "int" none with kind := .primitive 'I', accessFlags := 0x411 }
/-- [I -/
def k20 : Class := { plain "[I" (some 0) with kind := .array 19 .int, interfaces := #[11, 4], accessFlags := 1041 }

/-- [Lcom/example/rateloom/rateloom/repricing/RequestStatus; -/
def k21 : Class := { plain "[Lcom/example/rateloom/rateloom/repricing/RequestStatus;" (some 0) with kind := .array 6 (.object "com/example/rateloom/rateloom/repricing/RequestStatus"), interfaces := #[11, 4], accessFlags := 1041 }

def heap : Heap := #[{ cls := 6, slots := #[.ref 10, .ref 11, .ref 12, .ref 3], vm := .statics 6 },
  { cls := 9, slots := #[.long 0, .int 1, .null, .int 0, .null, .int 0, .int 0], vm := .statics 9 },
  { cls := 13, slots := #[.null, .null, .null], vm := .statics 13 },
  { cls := 21, slots := #[.ref 10, .ref 11, .ref 12], vm := .none },
  { cls := 16, slots := #[.int 80, .int 101, .int 110, .int 100, .int 105, .int 110, .int 103], vm := .none },
  { cls := 16, slots := #[.int 67, .int 111, .int 109, .int 112, .int 108, .int 101, .int 116, .int 101], vm := .none },
  { cls := 16, slots := #[.int 69, .int 114, .int 114, .int 111, .int 114], vm := .none },
  { cls := 9, slots := #[.ref 4, .int 0, .int 0, .int 0], vm := .none },
  { cls := 9, slots := #[.ref 5, .int 0, .int 0, .int 0], vm := .none },
  { cls := 9, slots := #[.ref 6, .int 0, .int 0, .int 0], vm := .none },
  { cls := 6, slots := #[.null, .int 0, .int 0, .ref 7], vm := .none },
  { cls := 6, slots := #[.null, .int 1, .int 0, .ref 8], vm := .none },
  { cls := 6, slots := #[.null, .int 2, .int 0, .ref 9], vm := .none }]
def classes : Array Class := #[k0, k1, k2, k3, k4, k5, k6, k7, k8, k9, k10, k11, k12, k13, k14, k15, k16, k17, k18, k19, k20, k21]
def interned : List (Array UInt16 × Addr) := []
def slotsUsed : Nat := 61
def theMethod : MethodId := ⟨1, 1⟩
def args0 : Array Value := #[.int 5]
def aboutOver (below : List Frame) : State where
  vm := { classes := classes, interned := interned.toArray }
  heap := heap
  slotsUsed := slotsUsed
  threads := #[{ frames := .invoking theMethod args0 :: below }]
def below0 : List Frame := [.native { method := ⟨0, 0⟩, args := #[] }]
def about1 : State := aboutOver below0
def p0 : Program := .bare "" "" ""
def e0 : Env := launch0.env 0 0 0
theorem w_frames : about1.frames = Frame.invoking theMethod args0 :: below0 := rfl
set_option maxRecDepth 65536 in
theorem w_args : argsFit about1.vm theMethod args0 = true := by decide +kernel
set_option maxRecDepth 65536 in
theorem w_heap : heapFits about1 = true := by decide +kernel
set_option maxRecDepth 65536 in
theorem w_runnable : about1.curStatus? = some .runnable := by decide +kernel
set_option maxRecDepth 65536 in
theorem w_alone : about1.alone = true := by decide +kernel
set_option maxRecDepth 65536 in
theorem w_named : about1.methodNamed? x = some theMethod := by decide +kernel
set_option maxRecDepth 65536 in
theorem w_hears : about1.hears theMethod below0 = true := by decide +kernel
set_option maxRecDepth 65536 in
theorem w_ripe : about1.ripe theMethod args0 below0 = true := by decide +kernel
theorem w_running : about1.status = .running := rfl
set_option maxRecDepth 65536 in
theorem w_room : about1.hasRoom e0.platform room_1 = true :=
  launch0.hasRoom_least _ room_1 (by decide +kernel) (by decide +kernel) (by decide +kernel) (by decide +kernel) (by decide +kernel) (by decide +kernel)
theorem allAtoms_all (ts : List Jvm.Cond) (a : Array Jvm.Value) (st : Jvm.State) : (allAtoms ts).before a st = ts.all (fun c => c.before a st) := by
  induction ts with
  | nil => rfl
  | cons c t ih =>
    show (Jvm.Cond.and c (allAtoms t)).before a st = _
    rw [Jvm.Cond.before_and, ih, List.all_cons]
def words1 : List Jvm.Cond := Jvm.Cond.code x code maxLocals ret :: tables_1
/-- a 'code' word, met by the world's own term for the bytes: nothing is compared byte by byte -/
theorem code_word {y : MethodName} {bytes : ByteArray} {mx : Nat} {rt : Option FieldType} {a : Array Value} {s : State} {m : MethodId} {meth : Method} {c : Code} (h1 : s.methodNamed? y = some m) (h2 : s.vm.method? m = some meth) (h3 : meth.code = some c) (h4 : c.code = bytes)
    (h5 : (c.maxLocals == mx && c.exceptionTable.isEmpty && decide (c.maxStack ≤ mostOperands) && decide (meth.sig.returnType = rt) && !meth.locks && decide (parseMethodDescriptor y.desc = some meth.sig)) = true) : (Jvm.Cond.code y bytes mx rt).before a s = true := by
  simp only [Bool.and_eq_true, beq_iff_eq, Bool.not_eq_true', decide_eq_true_eq] at h5
  obtain ⟨⟨⟨⟨⟨g1, g2⟩, g3⟩, g4⟩, g5⟩, g6⟩ := h5
  simp [Cond.before, Cond.holds, Cond.value, h1, h2, h3, h4, g1, g2, g3, g4, g5, g6]
def isCode : Jvm.Cond → Bool
  | .code _ _ _ _ => true
  | _ => false
theorem all_split {L : List Jvm.Cond} {P : Jvm.Cond → Bool} (h1 : L.all (fun c => isCode c || P c) = true) (h2 : ∀ c ∈ L.filter isCode, P c = true) : L.all P = true := by
  refine List.all_eq_true.mpr fun c hc => ?_
  have h := List.all_eq_true.mp h1 c hc
  rcases Bool.eq_false_or_eq_true (isCode c) with hi | hi
  · exact h2 c (List.mem_filter.mpr ⟨hc, hi⟩)
  · simpa [hi] using h
set_option maxRecDepth 65536 in
theorem w_c0 : (Jvm.Cond.code x code maxLocals ret).before args0 about1 = true := code_word (m := ⟨1, 1⟩) (meth := k1m1) (c := k1c1) (by decide +kernel) rfl rfl rfl (by decide +kernel)
set_option maxRecDepth 65536 in
theorem w_c1 : (Jvm.Cond.code ({ cls := "java/lang/String", name := "<init>", desc := "([C)V" } : Jvm.MethodName) jdk_42_method_3_code (2 : Nat) (Option.none : Option Jvm.ClassFile.FieldType)).before args0 about1 = true := code_word (m := ⟨9, 1⟩) (meth := k9m1) (c := k9c1) (by decide +kernel) rfl rfl rfl (by decide +kernel)
set_option maxRecDepth 65536 in
theorem w_c2 : (Jvm.Cond.code ({ cls := "java/lang/String", name := "<init>", desc := "([CIILjava/lang/Void;)V" } : Jvm.MethodName) jdk_42_method_149_code (6 : Nat) (Option.none : Option Jvm.ClassFile.FieldType)).before args0 about1 = true := code_word (m := ⟨9, 3⟩) (meth := k9m3) (c := k9c3) (by decide +kernel) rfl rfl rfl (by decide +kernel)
set_option maxRecDepth 65536 in
theorem w_c3 : (Jvm.Cond.code ({ cls := "java/lang/Object", name := "<init>", desc := "()V" } : Jvm.MethodName) object_method_1_code (1 : Nat) (Option.none : Option Jvm.ClassFile.FieldType)).before args0 about1 = true := code_word (m := ⟨0, 0⟩) (meth := k0m0) (c := k0c0) (by decide +kernel) rfl rfl rfl (by decide +kernel)
set_option maxRecDepth 65536 in
theorem w_c4 : (Jvm.Cond.code ({ cls := "java/lang/StringUTF16", name := "compress", desc := "([CII)[B" } : Jvm.MethodName) jdk_52_method_16_code (6 : Nat) (Option.some (Jvm.ClassFile.FieldType.array Jvm.ClassFile.FieldType.byte))).before args0 about1 = true := code_word (m := ⟨10, 2⟩) (meth := k10m2) (c := k10c2) (by decide +kernel) rfl rfl rfl (by decide +kernel)
set_option maxRecDepth 65536 in
theorem w_c5 : (Jvm.Cond.code ({ cls := "java/lang/StringUTF16", name := "compress", desc := "([CI[BII)I" } : Jvm.MethodName) jdk_52_method_21_code (7 : Nat) (Option.some Jvm.ClassFile.FieldType.int)).before args0 about1 = true := code_word (m := ⟨10, 3⟩) (meth := k10m3) (c := k10c3) (by decide +kernel) rfl rfl rfl (by decide +kernel)
set_option maxRecDepth 65536 in
theorem w_c6 : (Jvm.Cond.code ({ cls := "java/lang/StringUTF16", name := "coderFromArrayLen", desc := "([BI)B" } : Jvm.MethodName) jdk_52_method_15_code (2 : Nat) (Option.some Jvm.ClassFile.FieldType.byte)).before args0 about1 = true := code_word (m := ⟨10, 1⟩) (meth := k10m1) (c := k10c1) (by decide +kernel) rfl rfl rfl (by decide +kernel)
set_option maxRecDepth 65536 in
theorem w_c7 : (Jvm.Cond.code ({ cls := "com/example/rateloom/rateloom/repricing/RequestStatus", name := "ofLabel", desc := "(Ljava/lang/String;)Lcom/example/rateloom/rateloom/repricing/RequestStatus;" } : Jvm.MethodName) prog_49_method_4_code (5 : Nat) (Option.some (Jvm.ClassFile.FieldType.object "com/example/rateloom/rateloom/repricing/RequestStatus"))).before args0 about1 = true := code_word (m := ⟨6, 1⟩) (meth := k6m1) (c := k6c1) (by decide +kernel) rfl rfl rfl (by decide +kernel)
set_option maxRecDepth 65536 in
theorem w_c8 : (Jvm.Cond.code ({ cls := "com/example/rateloom/rateloom/repricing/RequestStatus", name := "values", desc := "()[Lcom/example/rateloom/rateloom/repricing/RequestStatus;" } : Jvm.MethodName) prog_49_method_1_code (0 : Nat) (Option.some (Jvm.ClassFile.FieldType.array (Jvm.ClassFile.FieldType.object "com/example/rateloom/rateloom/repricing/RequestStatus")))).before args0 about1 = true := code_word (m := ⟨6, 0⟩) (meth := k6m0) (c := k6c0) (by decide +kernel) rfl rfl rfl (by decide +kernel)
set_option maxRecDepth 65536 in
theorem w_c9 : (Jvm.Cond.code ({ cls := "java/lang/String", name := "equals", desc := "(Ljava/lang/Object;)Z" } : Jvm.MethodName) jdk_42_method_66_code (3 : Nat) (Option.some Jvm.ClassFile.FieldType.boolean)).before args0 about1 = true := code_word (m := ⟨9, 2⟩) (meth := k9m2) (c := k9c2) (by decide +kernel) rfl rfl rfl (by decide +kernel)
set_option maxRecDepth 65536 in
theorem w_c10 : (Jvm.Cond.code ({ cls := "java/lang/StringLatin1", name := "equals", desc := "([B[B)Z" } : Jvm.MethodName) jdk_43_method_13_code (3 : Nat) (Option.some Jvm.ClassFile.FieldType.boolean)).before args0 about1 = true := code_word (m := ⟨12, 1⟩) (meth := k12m1) (c := k12c1) (by decide +kernel) rfl rfl rfl (by decide +kernel)
set_option maxRecDepth 65536 in
theorem w_c11 : (Jvm.Cond.code ({ cls := "com/example/rateloom/rateloom/repricing/RequestStatus", name := "label", desc := "()Ljava/lang/String;" } : Jvm.MethodName) prog_49_method_5_code (1 : Nat) (Option.some (Jvm.ClassFile.FieldType.object "java/lang/String"))).before args0 about1 = true := code_word (m := ⟨6, 2⟩) (meth := k6m2) (c := k6c2) (by decide +kernel) rfl rfl rfl (by decide +kernel)
def codes1 : List Jvm.Cond := [Jvm.Cond.code x code maxLocals ret, Jvm.Cond.code ({ cls := "java/lang/String", name := "<init>", desc := "([C)V" } : Jvm.MethodName) jdk_42_method_3_code (2 : Nat) (Option.none : Option Jvm.ClassFile.FieldType), Jvm.Cond.code ({ cls := "java/lang/String", name := "<init>", desc := "([CIILjava/lang/Void;)V" } : Jvm.MethodName) jdk_42_method_149_code (6 : Nat) (Option.none : Option Jvm.ClassFile.FieldType), Jvm.Cond.code ({ cls := "java/lang/Object", name := "<init>", desc := "()V" } : Jvm.MethodName) object_method_1_code (1 : Nat) (Option.none : Option Jvm.ClassFile.FieldType), Jvm.Cond.code ({ cls := "java/lang/StringUTF16", name := "compress", desc := "([CII)[B" } : Jvm.MethodName) jdk_52_method_16_code (6 : Nat) (Option.some (Jvm.ClassFile.FieldType.array Jvm.ClassFile.FieldType.byte)), Jvm.Cond.code ({ cls := "java/lang/StringUTF16", name := "compress", desc := "([CI[BII)I" } : Jvm.MethodName) jdk_52_method_21_code (7 : Nat) (Option.some Jvm.ClassFile.FieldType.int), Jvm.Cond.code ({ cls := "java/lang/StringUTF16", name := "coderFromArrayLen", desc := "([BI)B" } : Jvm.MethodName) jdk_52_method_15_code (2 : Nat) (Option.some Jvm.ClassFile.FieldType.byte), Jvm.Cond.code ({ cls := "com/example/rateloom/rateloom/repricing/RequestStatus", name := "ofLabel", desc := "(Ljava/lang/String;)Lcom/example/rateloom/rateloom/repricing/RequestStatus;" } : Jvm.MethodName) prog_49_method_4_code (5 : Nat) (Option.some (Jvm.ClassFile.FieldType.object "com/example/rateloom/rateloom/repricing/RequestStatus")), Jvm.Cond.code ({ cls := "com/example/rateloom/rateloom/repricing/RequestStatus", name := "values", desc := "()[Lcom/example/rateloom/rateloom/repricing/RequestStatus;" } : Jvm.MethodName) prog_49_method_1_code (0 : Nat) (Option.some (Jvm.ClassFile.FieldType.array (Jvm.ClassFile.FieldType.object "com/example/rateloom/rateloom/repricing/RequestStatus"))), Jvm.Cond.code ({ cls := "java/lang/String", name := "equals", desc := "(Ljava/lang/Object;)Z" } : Jvm.MethodName) jdk_42_method_66_code (3 : Nat) (Option.some Jvm.ClassFile.FieldType.boolean), Jvm.Cond.code ({ cls := "java/lang/StringLatin1", name := "equals", desc := "([B[B)Z" } : Jvm.MethodName) jdk_43_method_13_code (3 : Nat) (Option.some Jvm.ClassFile.FieldType.boolean), Jvm.Cond.code ({ cls := "com/example/rateloom/rateloom/repricing/RequestStatus", name := "label", desc := "()Ljava/lang/String;" } : Jvm.MethodName) prog_49_method_5_code (1 : Nat) (Option.some (Jvm.ClassFile.FieldType.object "java/lang/String"))]
set_option maxRecDepth 65536 in
theorem codes_eq : words1.filter isCode = codes1 := rfl
theorem w_codes : ∀ c ∈ words1.filter isCode, c.before args0 about1 = true := by
  rw [codes_eq]
  intro c hc
  simp only [codes1, List.mem_cons, List.not_mem_nil, or_false] at hc
  rcases hc with rfl | rfl | rfl | rfl | rfl | rfl | rfl | rfl | rfl | rfl | rfl | rfl
  · exact w_c0
  · exact w_c1
  · exact w_c2
  · exact w_c3
  · exact w_c4
  · exact w_c5
  · exact w_c6
  · exact w_c7
  · exact w_c8
  · exact w_c9
  · exact w_c10
  · exact w_c11
set_option maxRecDepth 65536 in
theorem w_t1 : (words1.take 24).all (fun c => isCode c || c.before args0 about1) = true := by decide +kernel
set_option maxRecDepth 65536 in
theorem w_t2 : ((words1.drop 24).take 24).all (fun c => isCode c || c.before args0 about1) = true := by decide +kernel
set_option maxRecDepth 65536 in
theorem w_t3 : (((words1.drop 24).drop 24).take 24).all (fun c => isCode c || c.before args0 about1) = true := by decide +kernel
set_option maxRecDepth 65536 in
theorem w_t4 : (((words1.drop 24).drop 24).drop 24).all (fun c => isCode c || c.before args0 about1) = true := by decide +kernel
theorem w_tables : (allAtoms (Jvm.Cond.code x code maxLocals ret :: tables_1)).before args0 about1 = true := by
  rw [allAtoms_all]
  show words1.all (fun c => c.before args0 about1) = true
  refine all_split ?_ w_codes
  rw [← List.take_append_drop 24 words1, List.all_append, w_t1, ← List.take_append_drop 24 (words1.drop 24), List.all_append, w_t2, ← List.take_append_drop 24 ((words1.drop 24).drop 24), List.all_append, w_t3, w_t4]
  rfl
set_option maxRecDepth 65536 in
theorem w_rest : rest_1_c.before args0 about1 = true := by decide +kernel
set_option maxRecDepth 65536 in
theorem w_case : (Jvm.Cond.and given_1 narrow_1).before args0 about1 = true := by decide +kernel
theorem w_applies : (headSpec (Jvm.Cond.code x code maxLocals ret :: tables_1) room_1).applies x e0.platform about1 = true :=
  (Spec.applies_iff w_frames).mpr ⟨w_running, w_runnable, w_alone, w_named, w_hears, w_ripe, w_room, w_tables⟩
theorem atStart : AtStart classFile x code maxLocals ret World_1 tables_1 room_1 Calls_1 rest_1 Pre_1 launch0 p0 e0 about1 theMethod args0 below0 :=
  ⟨lists_1, trivial, launch0.admits_env _ _ _, launch0.least_env, fairChoices_fair.cas, fairChoices_fair.clock, w_frames, w_args, w_heap, w_applies, trivial, w_rest, w_case⟩
end start1
theorem witness_1 : WitnessClaimed_1 := ⟨start1.p0, start1.e0, start1.about1, start1.theMethod, start1.args0, start1.below0, start1.atStart⟩
end Jvm.Pilot.@@N@@
