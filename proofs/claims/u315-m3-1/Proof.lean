import JvmDerived
import JvmDerived.Pilot.@@N@@Statement
import JvmDerived.Pilot.@@N@@Code
set_option linter.unusedVariables false
set_option linter.unusedSimpArgs false
/- laws to paste: Road.backV, Road.codOf (cut by pick.py; bodies as the Statement names them) -/
namespace Jvm.Pilot.@@N@@
namespace StrChars
open Jvm Sem ClassFile Op Lib Jvm.Stand Jvm.Free.XT Jvm.Free.ALB Jvm.Free.JM Jvm.Free
open Jvm.Lib.Cold (StaticIs)
/-- a char array whose places are chars -/
def Ch (a : Addr) (A : Cell) (U : State) : Prop := Arr .char a A U ∧ Typed .char A
theorem Ch.mv {a : Addr} {A : Cell} {U U' : State} (h : Ch a A U) (hal : U.vm.Alike U'.vm) (hh : U'.heap = U.heap) : Ch a A U' := ⟨h.1.mv hal hh, h.2⟩
theorem Ch.keep {a : Addr} {A : Cell} {U U' : State} (h : Ch a A U) (hal : U.vm.Alike U'.vm) (hk : U'.heap[a]? = some A) : Ch a A U' := ⟨h.1.keep hal hk, h.2⟩
/-- what place i of a char[]'s cell holds -/
def cv (A : Cell) (i : Nat) : Int32 := match A.slots[i]? with | some (.int x) => x | _ => 0
theorem Ch.get {a : Addr} {A : Cell} {U : State} (h : Ch a A U) {i : Nat} (hi : i < A.slots.size) : A.slots[i]? = some (.int (cv A i)) := by
  have e := Array.getElem?_eq_getElem hi
  have f := h.2 i _ e
  unfold cv; rw [e]
  generalize A.slots[i] = v at f
  cases v <;> simp [fits] at f ⊢
/-- the byte that i2b leaves of a char -/
def lo8 (x : Int32) : Int32 := x.toInt8.toInt32
theorem fits_lo8 (y : Int32) : fits .byte (.int (lo8 y)) = true := by
  have h1 := y.toInt8.le_toInt
  have h2 := y.toInt8.toInt_lt
  simp only [lo8, fits, Bool.and_eq_true, decide_eq_true_eq, Int32.le_iff_toInt_le, Int8.toInt_toInt32, show (-128 : Int32).toInt = -128 from by decide, show (127 : Int32).toInt = 127 from by decide]
  omega
/-- A' is A but that each place j of lo .. hi - 1 holds f j -/
def Laid (A A' : Cell) (lo hi : Nat) (f : Nat → Value) : Prop := A'.cls = A.cls ∧ A'.vm = A.vm ∧ A'.slots.size = A.slots.size ∧ ∀ i, A'.slots[i]? = if lo ≤ i ∧ i < hi then some (f i) else A.slots[i]?
theorem Laid.zero (A : Cell) (lo : Nat) (f : Nat → Value) : Laid A A lo (lo + 0) f := ⟨rfl, rfl, rfl, fun i => by rw [if_neg (by omega)]⟩
theorem Laid.step {A Ak : Cell} {lo k : Nat} {f : Nat → Value} {v : Value} (h : Laid A Ak lo k f) (hlo : lo ≤ k) (hk : k < Ak.slots.size) (hv : v = f k) : Laid A (Ak.setSlot k v) lo (k + 1) f := by
  refine ⟨h.1, h.2.1, by simpa [Cell.setSlot] using h.2.2.1, fun i => ?_⟩
  by_cases e : k = i
  · subst e; rw [Cell.slots_setSlot_self v hk, if_pos (by omega), hv]
  · rw [Cell.slots_setSlot_ne v e, h.2.2.2 i]
    by_cases q : lo ≤ i ∧ i < k
    · rw [if_pos q, if_pos (by omega)]
    · rw [if_neg q, if_neg (by omega)]
def U16 : String := "java/lang/StringUTF16"
namespace Cmp5
def yN : MethodName := ⟨"java/lang/StringUTF16", "compress", "([CI[BII)I"⟩
abbrev yB : ByteArray := jdk_52_method_21_code
theorem d0 : decode yB 0 = .ok (.iconst 0, 1) := by decide +kernel
theorem d1 : decode yB 1 = .ok (.istore 5, 2) := by decide +kernel
theorem d3 : decode yB 3 = .ok (.iload 5, 2) := by decide +kernel
theorem d5 : decode yB 5 = .ok (.iload 4, 2) := by decide +kernel
theorem d7 : decode yB 7 = .ok (.if_icmp (.ge) 37, 3) := by decide +kernel
theorem d10 : decode yB 10 = .ok (.aload_n 0, 1) := by decide +kernel
theorem d11 : decode yB 11 = .ok (.iload_n 1, 1) := by decide +kernel
theorem d12 : decode yB 12 = .ok (.caload, 1) := by decide +kernel
theorem d13 : decode yB 13 = .ok (.istore 6, 2) := by decide +kernel
theorem d15 : decode yB 15 = .ok (.iload 6, 2) := by decide +kernel
theorem d17 : decode yB 17 = .ok (.sipush 255, 3) := by decide +kernel
theorem d20 : decode yB 20 = .ok (.if_icmp (.le) 6, 3) := by decide +kernel
theorem d26 : decode yB 26 = .ok (.aload_n 2, 1) := by decide +kernel
theorem d27 : decode yB 27 = .ok (.iload_n 3, 1) := by decide +kernel
theorem d28 : decode yB 28 = .ok (.iload 6, 2) := by decide +kernel
theorem d30 : decode yB 30 = .ok (.i2b, 1) := by decide +kernel
theorem d31 : decode yB 31 = .ok (.bastore, 1) := by decide +kernel
theorem d32 : decode yB 32 = .ok (.iinc 1 1, 3) := by decide +kernel
theorem d35 : decode yB 35 = .ok (.iinc 3 1, 3) := by decide +kernel
theorem d38 : decode yB 38 = .ok (.iinc 5 1, 3) := by decide +kernel
theorem d41 : decode yB 41 = .ok (.goto (-38), 3) := by decide +kernel
theorem d44 : decode yB 44 = .ok (.iload 4, 2) := by decide +kernel
theorem d46 : decode yB 46 = .ok (.ireturn, 1) := by decide +kernel
def site : List Cond := []
def tab : Cond := tabOf yN yB 7 (some .int) site
def P (b : Addr) (A : Cell) (d : Addr) (B : Cell) (o q len : Nat) (args : Array Value) (s : State) : Prop := args = #[.ref b, .int (Int32.ofNat o), .ref d, .int (Int32.ofNat q), .int (Int32.ofNat len)] ∧ Ch b A s ∧ Arr .byte d B s ∧ b ≠ d ∧ o + len ≤ A.slots.size ∧ q + len ≤ B.slots.size ∧ ∀ i, i < len → ¬ 255 < cv A (o + i)
def E (b : Addr) (A : Cell) (d : Addr) (B : Cell) (o q len : Nat) (r : Option Value) (s u : State) : Prop := r = some (.int (Int32.ofNat len)) ∧ ∃ B', Put d B' s u ∧ Laid B B' q (q + len) (fun j => Value.int (lo8 (cv A (o + (j - q)))))
/-- no char of the range above 255: len; the places written hold each char's low byte -/
theorem law (l : Launch) (b : Addr) (A : Cell) (d : Addr) (B : Cell) (o q len : Nat) : Law l yN 5 5 0 0 yB 7 (some .int) site (P b A d B o q len) (E b A d B o q len) (copyLocs d q len) 0 0 := by
  refine Law.of_walk (plainFor_of_name (by decide +kernel)) (by decide +kernel) (by decide +kernel) (by decide) (fun _ _ h => by rw [h.1]; rfl) (fun _ U U' hal hh h => ⟨h.1, h.2.1.mv hal hh, h.2.2.1.mv hal hh, h.2.2.2⟩) (fun r U U' V V' h1 hal h2 h => ⟨h.1, h.2.elim fun B' q => ⟨B', q.1.mv h1 h2, q.2⟩⟩) ?_
  intro p e s m args below meth c s₁ X0 hexec hbytes hml hret hlk hnm hown hh0 W hP
  obtain ⟨rfl, hA, hB, hne, l1, l2, hp⟩ := hP
  have c1 : Steps p.tables e below (s₁.setTop (entryFrame m #[.ref b, .int (Int32.ofNat o), .ref d, .int (Int32.ofNat q), .int (Int32.ofNat len)] 7)) (s₁.setTop (mkF m 0 #[.val (.ref b), .val (.int (Int32.ofNat o)), .val (.ref d), .val (.int (Int32.ofNat q)), .val (.int (Int32.ofNat len)), .unset, .unset] [])) := entry rfl
  have hA0 := hA.1.mv X0.warmed.alike hh0
  have hB0 := hB.mv X0.warmed.alike hh0
  have a31 := hA.1.2.2.2
  have c2 : Steps p.tables e below (s₁.setTop (entryFrame m #[.ref b, .int (Int32.ofNat o), .ref d, .int (Int32.ofNat q), .int (Int32.ofNat len)] 7)) (s₁.setTop (mkF m 3 #[.val (.ref b), .val (.int (Int32.ofNat o)), .val (.ref d), .val (.int (Int32.ofNat q)), .val (.int (Int32.ofNat len)), .val (.int 0), .unset] [])) := c1.trans (by
    refine iconstV X0.here hexec rfl 0 (hb hbytes d0) (by decide) ?_
    refine XS.istore X0.here hexec rfl (hb hbytes d1) rfl rfl ?_
    exact Steps.refl _)
  have loop : ∀ (r i : Nat), i + r = len → ∀ (z : Slot), (z = .unset ∨ ∃ w, z = .val w ∧ w.category = 1) → ∀ (Tl : State) (Bk : Cell), Stand p l e { frames := 0, locals := 0, cells := 0, slots := 0 } s m #[.ref b, .int (Int32.ofNat o), .ref d, .int (Int32.ofNat q), .int (Int32.ofNat len)] below meth c Tl ([] ++ copyLocs d q i) 0 0 → Put d Bk s₁ Tl → Laid B Bk q (q + i) (fun j => Value.int (lo8 (cv A (o + (j - q))))) →
      Steps p.tables e below (s₁.setTop (entryFrame m #[.ref b, .int (Int32.ofNat o), .ref d, .int (Int32.ofNat q), .int (Int32.ofNat len)] 7)) (Tl.setTop (mkF m 3 #[.val (.ref b), .val (.int (Int32.ofNat (o + i))), .val (.ref d), .val (.int (Int32.ofNat (q + i))), .val (.int (Int32.ofNat len)), .val (.int (Int32.ofNat i)), z] [])) → ∃ (T' : State) (B' : Cell) (z' : Slot), Stand p l e { frames := 0, locals := 0, cells := 0, slots := 0 } s m #[.ref b, .int (Int32.ofNat o), .ref d, .int (Int32.ofNat q), .int (Int32.ofNat len)] below meth c T' ([] ++ copyLocs d q len) 0 0 ∧ Put d B' s₁ T' ∧ Laid B B' q (q + len) (fun j => Value.int (lo8 (cv A (o + (j - q))))) ∧
      Steps p.tables e below (s₁.setTop (entryFrame m #[.ref b, .int (Int32.ofNat o), .ref d, .int (Int32.ofNat q), .int (Int32.ofNat len)] 7)) (T'.setTop (mkF m 3 #[.val (.ref b), .val (.int (Int32.ofNat (o + len))), .val (.ref d), .val (.int (Int32.ofNat (q + len))), .val (.int (Int32.ofNat len)), .val (.int (Int32.ofNat len)), z'] [])) := by
    intro r
    induction r with
    | zero =>
      intro i hi z hz Tl Bk Xl pl fl cl
      have hil : i = len := by omega
      rw [hil] at Xl fl cl
      exact ⟨Tl, Bk, z, Xl, pl, fl, cl⟩
    | succ r ih =>
      intro i hi z hz Tl Bk Xl pl fl cl
      have all := X0.warmed.alike.symm.trans Xl.warmed.alike
      have hAl := hA0.keep all (pl.other hne hA0.1)
      have hBk := hB0.like all pl.1 fl.1 fl.2.1 fl.2.2.1
      have hlt : q + i < Bk.slots.size := by rw [fl.2.2.1]; omega
      have c3 : Steps p.tables e below (s₁.setTop (entryFrame m #[.ref b, .int (Int32.ofNat o), .ref d, .int (Int32.ofNat q), .int (Int32.ofNat len)] 7)) (Tl.setTop (mkF m 12 #[.val (.ref b), .val (.int (Int32.ofNat (o + i))), .val (.ref d), .val (.int (Int32.ofNat (q + i))), .val (.int (Int32.ofNat len)), .val (.int (Int32.ofNat i)), z] [.int (Int32.ofNat (o + i)), .ref b])) := cl.trans (by
        refine XS.iload Xl.here hexec rfl (hb hbytes d3) rfl ?_
        refine XS.iload Xl.here hexec rfl (hb hbytes d5) rfl ?_
        refine XS.icmpNo Xl.here hexec rfl (hb hbytes d7) rfl (ii_ge_f (lt32 (by omega) (by omega))) ?_
        refine XS.aloadN Xl.here hexec rfl (hb hbytes d10) rfl rfl ?_
        refine XS.iloadN Xl.here hexec rfl (hb hbytes d11) rfl ?_
        exact Steps.refl _)
      have c4 : Steps p.tables e below (s₁.setTop (entryFrame m #[.ref b, .int (Int32.ofNat o), .ref d, .int (Int32.ofNat q), .int (Int32.ofNat len)] 7)) (Tl.setTop (mkF m 13 #[.val (.ref b), .val (.int (Int32.ofNat (o + i))), .val (.ref d), .val (.int (Int32.ofNat (q + i))), .val (.int (Int32.ofNat len)), .val (.int (Int32.ofNat i)), z] [.int (cv A (o + i))])) := c3.trans (by
        refine Xl.aget hexec hAl rfl (hA.get (i := o + i) (by omega)) rfl rfl (hb hbytes d12) ?_
        exact Steps.refl _)
      have c5 : Steps p.tables e below (s₁.setTop (entryFrame m #[.ref b, .int (Int32.ofNat o), .ref d, .int (Int32.ofNat q), .int (Int32.ofNat len)] 7)) (Tl.setTop (mkF m 15 #[.val (.ref b), .val (.int (Int32.ofNat (o + i))), .val (.ref d), .val (.int (Int32.ofNat (q + i))), .val (.int (Int32.ofNat len)), .val (.int (Int32.ofNat i)), .val (.int (cv A (o + i)))] [])) := c4.trans (by
        refine XS.istoreS Xl.here hexec rfl (hb hbytes d13) rfl rfl hz ?_
        exact Steps.refl _)
      have c6 : Steps p.tables e below (s₁.setTop (entryFrame m #[.ref b, .int (Int32.ofNat o), .ref d, .int (Int32.ofNat q), .int (Int32.ofNat len)] 7)) (Tl.setTop (mkF m 31 #[.val (.ref b), .val (.int (Int32.ofNat (o + i))), .val (.ref d), .val (.int (Int32.ofNat (q + i))), .val (.int (Int32.ofNat len)), .val (.int (Int32.ofNat i)), .val (.int (cv A (o + i)))] [.int (lo8 (cv A (o + i))), .int (Int32.ofNat (q + i)), .ref d])) := c5.trans (by
        refine XS.iload Xl.here hexec rfl (hb hbytes d15) rfl ?_
        refine sipushV Xl.here hexec rfl 255 (hb hbytes d17) (by decide) ?_
        refine XS.icmpYes Xl.here hexec rfl (pc0 := 20) rfl (hb hbytes d20) rfl (ii_le_t (hp i (by omega))) (by decide) rfl ?_
        refine XS.aloadN Xl.here hexec rfl (hb hbytes d26) rfl rfl ?_
        refine XS.iloadN Xl.here hexec rfl (hb hbytes d27) rfl ?_
        refine XS.iload Xl.here hexec rfl (hb hbytes d28) rfl ?_
        refine i2b Xl.here hexec rfl (hb hbytes d30) rfl ?_
        exact Steps.refl _)
      obtain ⟨T7, X7, p7, st7⟩ := Xl.aput hexec hBk rfl hlt rfl (fits_lo8 (cv A (o + i))) (g := (mkF m 31 #[.val (.ref b), .val (.int (Int32.ofNat (o + i))), .val (.ref d), .val (.int (Int32.ofNat (q + i))), .val (.int (Int32.ofNat len)), .val (.int (Int32.ofNat i)), .val (.int (cv A (o + i)))] [.int (lo8 (cv A (o + i))), .int (Int32.ofNat (q + i)), .ref d])) rfl (rest := []) rfl (hb hbytes d31)
      have c8 : Steps p.tables e below (s₁.setTop (entryFrame m #[.ref b, .int (Int32.ofNat o), .ref d, .int (Int32.ofNat q), .int (Int32.ofNat len)] 7)) (T7.setTop (mkF m 32 #[.val (.ref b), .val (.int (Int32.ofNat (o + i))), .val (.ref d), .val (.int (Int32.ofNat (q + i))), .val (.int (Int32.ofNat len)), .val (.int (Int32.ofNat i)), .val (.int (cv A (o + i)))] [])) := c6.trans (st7 _ (Steps.refl _))
      have c9 : Steps p.tables e below (s₁.setTop (entryFrame m #[.ref b, .int (Int32.ofNat o), .ref d, .int (Int32.ofNat q), .int (Int32.ofNat len)] 7)) (T7.setTop (mkF m 3 #[.val (.ref b), .val (.int (Int32.ofNat (o + i) + 1)), .val (.ref d), .val (.int (Int32.ofNat (q + i) + 1)), .val (.int (Int32.ofNat len)), .val (.int (Int32.ofNat i + 1)), .val (.int (cv A (o + i)))] [])) := c8.trans (by
        refine iincV X7.here hexec rfl 1 (hb hbytes d32) (by decide) rfl rfl ?_
        refine iincV X7.here hexec rfl 1 (hb hbytes d35) (by decide) rfl rfl ?_
        refine iincV X7.here hexec rfl 1 (hb hbytes d38) (by decide) rfl rfl ?_
        refine XS.goto X7.here hexec rfl (pc0 := 41) rfl (hb hbytes d41) (by decide) rfl ?_
        exact Steps.refl _)
      have c10 : Steps p.tables e below (s₁.setTop (entryFrame m #[.ref b, .int (Int32.ofNat o), .ref d, .int (Int32.ofNat q), .int (Int32.ofNat len)] 7)) (T7.setTop (mkF m 3 #[.val (.ref b), .val (.int (Int32.ofNat (o + (i + 1)))), .val (.ref d), .val (.int (Int32.ofNat (q + (i + 1)))), .val (.int (Int32.ofNat len)), .val (.int (Int32.ofNat (i + 1))), .val (.int (cv A (o + i)))] [])) := by
        have := c9
        rw [succ32, succ32, succ32] at this
        exact this
      exact ih (i + 1) (by omega) _ (Or.inr ⟨_, rfl, rfl⟩) T7 _ (by rw [copyLocs_step, ← List.append_assoc]; exact X7) (pl.trans p7) (fl.step (by omega) hlt (by simp)) c10
  obtain ⟨T9, B9, z9, X9, p9, f9, g9⟩ := loop len 0 (by omega) .unset (Or.inl rfl) s₁ B (by simpa [copyLocs] using X0) ⟨hB0.1, fun _ _ => rfl, rfl⟩ (Laid.zero _ _ _) c2
  have c11 : Steps p.tables e below (s₁.setTop (entryFrame m #[.ref b, .int (Int32.ofNat o), .ref d, .int (Int32.ofNat q), .int (Int32.ofNat len)] 7)) (T9.setTop (mkF m 46 #[.val (.ref b), .val (.int (Int32.ofNat (o + len))), .val (.ref d), .val (.int (Int32.ofNat (q + len))), .val (.int (Int32.ofNat len)), .val (.int (Int32.ofNat len)), z9] [.int (Int32.ofNat len)])) := g9.trans (by
    refine XS.iload X9.here hexec rfl (hb hbytes d3) rfl ?_
    refine XS.iload X9.here hexec rfl (hb hbytes d5) rfl ?_
    refine XS.icmpYes X9.here hexec rfl (pc0 := 7) rfl (hb hbytes d7) rfl (ii_ge_t (nlt32 (by omega) (Nat.le_refl _))) (by decide) rfl ?_
    refine XS.iload X9.here hexec rfl (hb hbytes d44) rfl ?_
    exact Steps.refl _)
  exact ⟨T9, some (.int (Int32.ofNat len)), _, _, _, X9, by simp, rfl, rfl, (fun h => by cases h), ⟨rfl, B9, p9.from hh0, f9⟩, fun fs hl => c11.trans (X9.ireturnOut hexec hret rfl (Or.inl rfl) (hb hbytes d46) hl)⟩
end Cmp5
namespace Cmp3
def yN : MethodName := ⟨"java/lang/StringUTF16", "compress", "([CII)[B"⟩
abbrev yB : ByteArray := jdk_52_method_16_code
theorem d0 : decode yB 0 = .ok (.iload_n 2, 1) := by decide +kernel
theorem d1 : decode yB 1 = .ok (.newarray .byte, 2) := by decide +kernel
theorem d3 : decode yB 3 = .ok (.astore_n 3, 1) := by decide +kernel
theorem d4 : decode yB 4 = .ok (.aload_n 0, 1) := by decide +kernel
theorem d5 : decode yB 5 = .ok (.iload_n 1, 1) := by decide +kernel
theorem d6 : decode yB 6 = .ok (.aload_n 3, 1) := by decide +kernel
theorem d7 : decode yB 7 = .ok (.iconst 0, 1) := by decide +kernel
theorem d8 : decode yB 8 = .ok (.iload_n 2, 1) := by decide +kernel
theorem d9 : decode yB 9 = .ok (.invokestatic 115, 3) := by decide +kernel
theorem d12 : decode yB 12 = .ok (.istore 4, 2) := by decide +kernel
theorem d14 : decode yB 14 = .ok (.iload 4, 2) := by decide +kernel
theorem d16 : decode yB 16 = .ok (.iload_n 2, 1) := by decide +kernel
theorem d17 : decode yB 17 = .ok (.if_icmp (.eq) 40, 3) := by decide +kernel
theorem d57 : decode yB 57 = .ok (.aload_n 3, 1) := by decide +kernel
theorem d58 : decode yB 58 = .ok (.areturn, 1) := by decide +kernel
def site : List Cond := [.arrayClass .byte, Cmp5.tab] ++ staticW U16 115 Cmp5.yN
def tab : Cond := tabOf yN yB 6 (some (.array .byte)) site
def P (b : Addr) (A : Cell) (o len : Nat) (args : Array Value) (s : State) : Prop := args = #[.ref b, .int (Int32.ofNat o), .int (Int32.ofNat len)] ∧ Ch b A s ∧ o + len ≤ A.slots.size ∧ len ≤ 536870912 ∧ ∀ i, i < len → ¬ 255 < cv A (o + i)
def E (b : Addr) (A : Cell) (o len : Nat) (r : Option Value) (s u : State) : Prop := NewArr .byte "[B" len (fun j => .int (lo8 (cv A (o + j)))) r s u ∧ u.heap.size = s.heap.size + 1
/-- no char of the range above 255: a new byte[] of their low bytes -/
theorem law (l : Launch) (b : Addr) (A : Cell) (o len : Nat) : Law l yN 3 3 1 18 yB 6 (some (.array .byte)) site (P b A o len) (E b A o len) [] 1 len := by
  refine Law.of_walk (plainFor_of_name (by decide +kernel)) (by decide +kernel) (by decide +kernel) (by decide) (fun _ _ h => by rw [h.1]; rfl) (fun _ U U' hal hh h => ⟨h.1, h.2.1.mv hal hh, h.2.2⟩) (fun r U U' V V' h1 hal h2 h => ⟨NewArr.mv r U U' V V' h1 hal h2 h.1, by rw [h1, h2]; exact h.2⟩) ?_
  intro p e s m args below meth c s₁ X0 hexec hbytes hml hret hlk hnm hown hh0 W hP
  obtain ⟨rfl, hA, l1, l2, hp⟩ := hP
  have a31 := hA.1.2.2.2
  have c1 : Steps p.tables e below (s₁.setTop (entryFrame m #[.ref b, .int (Int32.ofNat o), .int (Int32.ofNat len)] 6)) (s₁.setTop (mkF m 0 #[.val (.ref b), .val (.int (Int32.ofNat o)), .val (.int (Int32.ofNat len)), .unset, .unset, .unset] [])) := entry rfl
  have c2 : Steps p.tables e below (s₁.setTop (entryFrame m #[.ref b, .int (Int32.ofNat o), .int (Int32.ofNat len)] 6)) (s₁.setTop (mkF m 1 #[.val (.ref b), .val (.int (Int32.ofNat o)), .val (.int (Int32.ofNat len)), .unset, .unset, .unset] [.int (Int32.ofNat len)])) := c1.trans (by
    refine XS.iloadN X0.here hexec rfl (hb hbytes d0) rfl ?_
    exact Steps.refl _)
  obtain ⟨T3, B3, X3, ba3, bs3, bv3, bh3, bf3, st3⟩ := X0.anew hexec (atype := .byte) (wk W (.arrayClass .byte)) rfl (by show len * 1 ≤ _; omega) (by omega) (g := (mkF m 1 #[.val (.ref b), .val (.int (Int32.ofNat o)), .val (.int (Int32.ofNat len)), .unset, .unset, .unset] [.int (Int32.ofNat len)])) rfl (hb hbytes d1) (rest := []) rfl (Nat.le_refl _) (by show 0 + len ≤ len; omega)
  rw [hh0] at ba3 st3
  have kp3 : XT.Kept s T3 := (XT.Kept.of_eq hh0).push bh3
  have hA3 := hA.keep X3.warmed.alike (kp3 _ _ hA.1.1)
  have hne : b ≠ s.heap.size := hA.1.ne
  have c4 : Steps p.tables e below (s₁.setTop (entryFrame m #[.ref b, .int (Int32.ofNat o), .int (Int32.ofNat len)] 6)) (T3.setTop (mkF m 3 #[.val (.ref b), .val (.int (Int32.ofNat o)), .val (.int (Int32.ofNat len)), .unset, .unset, .unset] [.ref s.heap.size])) := c2.trans (st3 _ (Steps.refl _))
  have c5 : Steps p.tables e below (s₁.setTop (entryFrame m #[.ref b, .int (Int32.ofNat o), .int (Int32.ofNat len)] 6)) (T3.setTop (mkF m 9 #[.val (.ref b), .val (.int (Int32.ofNat o)), .val (.int (Int32.ofNat len)), .val (.ref s.heap.size), .unset, .unset] [.int (Int32.ofNat len), .int 0, .ref s.heap.size, .int (Int32.ofNat o), .ref b])) := c4.trans (by
    refine XS.astoreN X3.here hexec rfl (hb hbytes d3) rfl rfl rfl ?_
    refine XS.aloadN X3.here hexec rfl (hb hbytes d4) rfl rfl ?_
    refine XS.iloadN X3.here hexec rfl (hb hbytes d5) rfl ?_
    refine XS.aloadN X3.here hexec rfl (hb hbytes d6) rfl rfl ?_
    refine iconstV X3.here hexec rfl 0 (hb hbytes d7) (by decide) ?_
    refine XS.iloadN X3.here hexec rfl (hb hbytes d8) rfl ?_
    exact Steps.refl _)
  obtain ⟨v6, T6, X6, E6, g6⟩ := X3.callS hexec (Cmp5.law l b A s.heap.size B3 o 0 len) hown (wks W (staticW U16 115 Cmp5.yN)) (wk W Cmp5.tab) (W := 0) (Nat.le_of_ble_eq_true rfl) (Nat.le_of_ble_eq_true rfl) (Nat.le_refl _) (by show 0 + len + 0 ≤ len; omega) (g := (mkF m 9 #[.val (.ref b), .val (.int (Int32.ofNat o)), .val (.int (Int32.ofNat len)), .val (.ref s.heap.size), .unset, .unset] [.int (Int32.ofNat len), .int (Int32.ofNat 0), .ref s.heap.size, .int (Int32.ofNat o), .ref b])) rfl (by rw [hml]; rfl) c5 (argsL := [.ref b, .int (Int32.ofNat o), .ref s.heap.size, .int (Int32.ofNat 0), .int (Int32.ofNat len)]) (rest := []) rfl rfl (by show 2 * 0 + 0 ≤ _; decide) (hb hbytes d9) (⟨rfl, hA3, ba3, hne, l1, by rw [bs3]; simp, hp⟩)
  obtain ⟨rfl, B6, p6, f6⟩ := E6
  have c7 : Steps p.tables e below (s₁.setTop (entryFrame m #[.ref b, .int (Int32.ofNat o), .int (Int32.ofNat len)] 6)) (T6.setTop (mkF m 12 #[.val (.ref b), .val (.int (Int32.ofNat o)), .val (.int (Int32.ofNat len)), .val (.ref s.heap.size), .unset, .unset] [.int (Int32.ofNat len)])) := g6
  have c8 : Steps p.tables e below (s₁.setTop (entryFrame m #[.ref b, .int (Int32.ofNat o), .int (Int32.ofNat len)] 6)) (T6.setTop (mkF m 58 #[.val (.ref b), .val (.int (Int32.ofNat o)), .val (.int (Int32.ofNat len)), .val (.ref s.heap.size), .val (.int (Int32.ofNat len)), .unset] [.ref s.heap.size])) := c7.trans (by
    refine XS.istore X6.here hexec rfl (hb hbytes d12) rfl rfl ?_
    refine XS.iload X6.here hexec rfl (hb hbytes d14) rfl ?_
    refine XS.iloadN X6.here hexec rfl (hb hbytes d16) rfl ?_
    refine XS.icmpYes X6.here hexec rfl (pc0 := 17) rfl (hb hbytes d17) rfl (ii_eq_t rfl) (by decide) rfl ?_
    refine XS.aloadN X6.here hexec rfl (hb hbytes d57) rfl rfl ?_
    exact Steps.refl _)
  have X8 := X6.wide (L' := []) (cells' := 1) (slots' := len) (fun x hx hlt => by
    simp only [List.nil_append, copyLocs, List.mem_map, List.mem_range] at hx
    obtain ⟨i, -, rfl⟩ := hx
    exact absurd hlt (Nat.lt_irrefl _)) (Nat.le_refl _) (by omega)
  exact ⟨T6, some (.ref s.heap.size), _, _, _, X8, rfl, rfl, rfl, (fun h => by cases h), ⟨⟨rfl, B6, ba3.like (X3.warmed.alike.symm.trans X6.warmed.alike) p6.1 f6.1 f6.2.1 f6.2.2.1, f6.2.1.trans bv3, by rw [X6.warmed.alike.findClass, f6.1]; exact bf3, by rw [f6.2.2.1, bs3]; simp, fun j hj => by rw [f6.2.2.2 j, if_pos (by omega)]; rfl, kp3.put p6 (Nat.le_refl _)⟩, by rw [p6.2.2, bh3, hh0]; simp⟩, fun fs hl => c8.trans (X8.areturnOut hexec rfl hret rfl (hb hbytes d58) hl)⟩
end Cmp3
namespace CodL
def yN : MethodName := ⟨"java/lang/StringUTF16", "coderFromArrayLen", "([BI)B"⟩
abbrev yB : ByteArray := jdk_52_method_15_code
theorem d0 : decode yB 0 = .ok (.iload_n 1, 1) := by decide +kernel
theorem d1 : decode yB 1 = .ok (.aload_n 0, 1) := by decide +kernel
theorem d2 : decode yB 2 = .ok (.arraylength, 1) := by decide +kernel
theorem d3 : decode yB 3 = .ok (.isub, 1) := by decide +kernel
theorem d4 : decode yB 4 = .ok (.bipush 31, 2) := by decide +kernel
theorem d6 : decode yB 6 = .ok (.iushr, 1) := by decide +kernel
theorem d7 : decode yB 7 = .ok (.i2b, 1) := by decide +kernel
theorem d8 : decode yB 8 = .ok (.ireturn, 1) := by decide +kernel
def site : List Cond := []
def tab : Cond := tabOf yN yB 2 (some .byte) site
def P (d : Addr) (B : Cell) (args : Array Value) (s : State) : Prop := args = #[.ref d, .int (Int32.ofNat B.slots.size)] ∧ Arr .byte d B s
def E (r : Option Value) (s u : State) : Prop := XT.PureE (some (.int 0)) r s u
/-- an array as long as the number of chars: LATIN1 -/
theorem law (l : Launch) (d : Addr) (B : Cell) : Law l yN 2 2 0 0 yB 2 (some .byte) site (P d B) E [] 0 0 := by
  refine Law.of_walk (plainFor_of_name (by decide +kernel)) (by decide +kernel) (by decide +kernel) (by decide) (fun _ _ h => by rw [h.1]; rfl) (fun _ U U' hal hh h => ⟨h.1, h.2.mv hal hh⟩) (fun r U U' V V' h1 hal h2 h => XT.PureE.mv r U U' V V' h1 hal h2 h) ?_
  intro p e s m args below meth c s₁ X0 hexec hbytes hml hret hlk hnm hown hh0 W hP
  obtain ⟨rfl, hB⟩ := hP
  have hB0 := hB.mv X0.warmed.alike hh0
  have c1 : Steps p.tables e below (s₁.setTop (entryFrame m #[.ref d, .int (Int32.ofNat B.slots.size)] 2)) (s₁.setTop (mkF m 0 #[.val (.ref d), .val (.int (Int32.ofNat B.slots.size))] [])) := entry rfl
  have c2 : Steps p.tables e below (s₁.setTop (entryFrame m #[.ref d, .int (Int32.ofNat B.slots.size)] 2)) (s₁.setTop (mkF m 2 #[.val (.ref d), .val (.int (Int32.ofNat B.slots.size))] [.ref d, .int (Int32.ofNat B.slots.size)])) := c1.trans (by
    refine XS.iloadN X0.here hexec rfl (hb hbytes d0) rfl ?_
    refine XS.aloadN X0.here hexec rfl (hb hbytes d1) rfl rfl ?_
    exact Steps.refl _)
  have c3 : Steps p.tables e below (s₁.setTop (entryFrame m #[.ref d, .int (Int32.ofNat B.slots.size)] 2)) (s₁.setTop (mkF m 8 #[.val (.ref d), .val (.int (Int32.ofNat B.slots.size))] [.int (lo8 (ushr (Int32.ofNat B.slots.size - Int32.ofNat B.slots.size) 31))])) := c2.trans (by
    refine X0.alen hexec hB0 rfl rfl (hb hbytes d2) ?_
    refine XS.isub X0.here hexec rfl (hb hbytes d3) rfl ?_
    refine bipushV X0.here hexec rfl 31 (hb hbytes d4) (by decide) ?_
    refine iushr X0.here hexec rfl (hb hbytes d6) rfl ?_
    refine i2b X0.here hexec rfl (hb hbytes d7) rfl ?_
    exact Steps.refl _)
  have e0 : lo8 (ushr (Int32.ofNat B.slots.size - Int32.ofNat B.slots.size) 31) = 0 := by rw [Int32.sub_self]; decide
  rw [e0] at c3
  exact ⟨s₁, some (.int 0), _, _, _, X0, rfl, rfl, rfl, (fun h => by cases h), ⟨rfl, hh0⟩, fun fs hl => c3.trans (X0.ireturnOut hexec hret rfl (Or.inr (Or.inr (Or.inl rfl))) (hb hbytes d8) hl)⟩
end CodL
/-- the String at a is Latin-1 over a new byte[] (the heap's one new cell): the low bytes of the len chars of A from o on; every cell but a is kept -/
def Got (a : Addr) (D : Cell) (fV fC : Field) (A : Cell) (o len : Nat) (r : Option Value) (s u : State) : Prop := r = none ∧ ∃ D' V : Cell, Blank "java/lang/String" a D' u ∧ Same D D' [fV.slot, fC.slot] ∧ D'.slots[fV.slot]? = some (.ref s.heap.size) ∧ D'.slots[fC.slot]? = some (.int 0) ∧ Arr .byte s.heap.size V u ∧ V.vm = .none ∧ u.vm.findClass "[B" = some V.cls ∧ V.slots.size = len ∧ (∀ j, j < len → V.slots[j]? = some (.int (lo8 (cv A (o + j))))) ∧ (∀ (y : Addr) (c : Cell), y ≠ a → s.heap[y]? = some c → u.heap[y]? = some c) ∧ u.heap.size = s.heap.size + 1
theorem Got.mv {a : Addr} {D A : Cell} {fV fC : Field} {o len : Nat} : ∀ r (U U' V V' : State), U'.heap = U.heap → V.vm.Alike V'.vm → V'.heap = V.heap → Got a D fV fC A o len r U V → Got a D fV fC A o len r U' V' :=
  fun r U U' V V' h1 hal h2 ⟨e0, D', X, a1, a2, a3, a4, a5, a6, a7, a8, a9, a10, a11⟩ => ⟨e0, D', X, a1.mv hal h2, a2, by rw [h1]; exact a3, a4, by rw [h1]; exact a5.mv hal h2, a6, by rw [hal.findClass]; exact a7, a8, a9, by rw [h1, h2]; exact a10, by rw [h1, h2]; exact a11⟩
namespace New4
def yN : MethodName := ⟨"java/lang/String", "<init>", "([CIILjava/lang/Void;)V"⟩
abbrev yB : ByteArray := jdk_42_method_149_code
theorem d0 : decode yB 0 = .ok (.aload_n 0, 1) := by decide +kernel
theorem d1 : decode yB 1 = .ok (.invokespecial 1, 3) := by decide +kernel
theorem d4 : decode yB 4 = .ok (.iload_n 3, 1) := by decide +kernel
theorem d5 : decode yB 5 = .ok (.ifCond (.ne) 22, 3) := by decide +kernel
theorem d27 : decode yB 27 = .ok (.getstatic 38, 3) := by decide +kernel
theorem d30 : decode yB 30 = .ok (.ifCond (.eq) 28, 3) := by decide +kernel
theorem d33 : decode yB 33 = .ok (.aload_n 1, 1) := by decide +kernel
theorem d34 : decode yB 34 = .ok (.iload_n 2, 1) := by decide +kernel
theorem d35 : decode yB 35 = .ok (.iload_n 3, 1) := by decide +kernel
theorem d36 : decode yB 36 = .ok (.invokestatic 177, 3) := by decide +kernel
theorem d39 : decode yB 39 = .ok (.astore 5, 2) := by decide +kernel
theorem d41 : decode yB 41 = .ok (.aload_n 0, 1) := by decide +kernel
theorem d42 : decode yB 42 = .ok (.aload 5, 2) := by decide +kernel
theorem d44 : decode yB 44 = .ok (.iload_n 3, 1) := by decide +kernel
theorem d45 : decode yB 45 = .ok (.invokestatic 47, 3) := by decide +kernel
theorem d48 : decode yB 48 = .ok (.putfield 15, 3) := by decide +kernel
theorem d51 : decode yB 51 = .ok (.aload_n 0, 1) := by decide +kernel
theorem d52 : decode yB 52 = .ok (.aload 5, 2) := by decide +kernel
theorem d54 : decode yB 54 = .ok (.putfield 9, 3) := by decide +kernel
theorem d57 : decode yB 57 = .ok (.return_, 1) := by decide +kernel
def site : List Cond := [.fieldLink "java/lang/String" 38 "java/lang/String" "COMPACT_STRINGS" "Z", Cmp3.tab, CodL.tab, .laysFinal "java/lang/String" "java/lang/String" "value" "[B", .fieldLink "java/lang/String" 9 "java/lang/String" "value" "[B", .laysFinal "java/lang/String" "java/lang/String" "coder" "B", .fieldLink "java/lang/String" 15 "java/lang/String" "coder" "B"] ++ objW "java/lang/String" 1 ++ staticW "java/lang/String" 177 Cmp3.yN ++ staticW "java/lang/String" 47 CodL.yN
def tab : Cond := tabOf yN yB 6 none site
def P (a : Addr) (D : Cell) (fV fC : Field) (b : Addr) (A : Cell) (z : Int32) (o len : Nat) (args : Array Value) (s : State) : Prop := args = #[.ref a, .ref b, .int (Int32.ofNat o), .int (Int32.ofNat len), .null] ∧ Blank "java/lang/String" a D s ∧ Found "java/lang/String" "value" "[B" fV s ∧ Found "java/lang/String" "coder" "B" fC s ∧ Ch b A s ∧ StaticIs s "java/lang/String" "COMPACT_STRINGS" "Z" (.int z) ∧ ¬ z = 0 ∧ 0 < len ∧ o + len ≤ A.slots.size ∧ len ≤ 536870912 ∧ ∀ i, i < len → ¬ 255 < cv A (o + i)
def E (a : Addr) (D : Cell) (fV fC : Field) (A : Cell) (o len : Nat) (r : Option Value) (s u : State) : Prop := Got a D fV fC A o len r s u
/-- len > 0, no char of the range above 255: a Latin-1 String of their low bytes -/
theorem law (l : Launch) (a : Addr) (D : Cell) (fV fC : Field) (b : Addr) (A : Cell) (z : Int32) (o len : Nat) : Law l yN 5 4 2 35 yB 6 none site (P a D fV fC b A z o len) (E a D fV fC A o len) [⟨a, fC.slot⟩, ⟨a, fV.slot⟩] 1 len := by
  refine Law.of_walk (plainFor_of_name (by decide +kernel)) (by decide +kernel) (by decide +kernel) (by decide) (fun _ _ h => by rw [h.1]; rfl) (fun _ U U' hal hh h => ⟨h.1, h.2.1.mv hal hh, h.2.2.1.al hal, h.2.2.2.1.al hal, h.2.2.2.2.1.mv hal hh, h.2.2.2.2.2.1.there hal hh, h.2.2.2.2.2.2⟩) (fun r U U' V V' h1 hal h2 h => Got.mv r U U' V V' h1 hal h2 h) ?_
  intro p e s m args below meth c s₁ X0 hexec hbytes hml hret hlk hnm hown hh0 W hP
  obtain ⟨rfl, hB, f1, f2, hA, s1, hz, l0, l1, l2, hp⟩ := hP
  have a31 := hA.1.2.2.2
  have c1 : Steps p.tables e below (s₁.setTop (entryFrame m #[.ref a, .ref b, .int (Int32.ofNat o), .int (Int32.ofNat len), .null] 6)) (s₁.setTop (mkF m 0 #[.val (.ref a), .val (.ref b), .val (.int (Int32.ofNat o)), .val (.int (Int32.ofNat len)), .val .null, .unset] [])) := entry rfl
  have c2 : Steps p.tables e below (s₁.setTop (entryFrame m #[.ref a, .ref b, .int (Int32.ofNat o), .int (Int32.ofNat len), .null] 6)) (s₁.setTop (mkF m 1 #[.val (.ref a), .val (.ref b), .val (.int (Int32.ofNat o)), .val (.int (Int32.ofNat len)), .val .null, .unset] [.ref a])) := c1.trans (by
    refine XS.aloadN X0.here hexec rfl (hb hbytes d0) rfl rfl ?_
    exact Steps.refl _)
  obtain ⟨T3, X3, q3, st3⟩ := X0.oinit hexec hown (wks W (objW "java/lang/String" 1)) (g := (mkF m 1 #[.val (.ref a), .val (.ref b), .val (.int (Int32.ofNat o)), .val (.int (Int32.ofNat len)), .val .null, .unset] [.ref a])) rfl (by rw [hml]; rfl) (rest := []) rfl (hb hbytes d1) (W := 0) (by show 2 * 0 + 0 ≤ _; decide) (Nat.le_of_ble_eq_true rfl) (Nat.le_of_ble_eq_true rfl)
  have hh3 := q3.trans hh0
  have c4 : Steps p.tables e below (s₁.setTop (entryFrame m #[.ref a, .ref b, .int (Int32.ofNat o), .int (Int32.ofNat len), .null] 6)) (T3.setTop (mkF m 27 #[.val (.ref a), .val (.ref b), .val (.int (Int32.ofNat o)), .val (.int (Int32.ofNat len)), .val .null, .unset] [])) := (c2.trans (st3 _ (Steps.refl _))).trans (by
    refine XS.iloadN X3.here hexec rfl (hb hbytes d4) rfl ?_
    refine XS.ifYes X3.here hexec rfl (pc0 := 5) rfl (hb hbytes d5) rfl (i0_ne_t (nz32 (by omega) l0)) (by decide) rfl ?_
    exact Steps.refl _)
  obtain ⟨T5, X5, q5, st5⟩ := X3.sget hexec hown (wk W (.fieldLink "java/lang/String" 38 "java/lang/String" "COMPACT_STRINGS" "Z")) s1 (fun _ _ h => by rw [hh3]; exact h) (g := (mkF m 27 #[.val (.ref a), .val (.ref b), .val (.int (Int32.ofNat o)), .val (.int (Int32.ofNat len)), .val .null, .unset] [])) rfl (hb hbytes d27)
  have hh5 := q5.trans hh3
  have c6 : Steps p.tables e below (s₁.setTop (entryFrame m #[.ref a, .ref b, .int (Int32.ofNat o), .int (Int32.ofNat len), .null] 6)) (T5.setTop (mkF m 30 #[.val (.ref a), .val (.ref b), .val (.int (Int32.ofNat o)), .val (.int (Int32.ofNat len)), .val .null, .unset] [.int z])) := c4.trans (st5 _ (Steps.refl _))
  have c7 : Steps p.tables e below (s₁.setTop (entryFrame m #[.ref a, .ref b, .int (Int32.ofNat o), .int (Int32.ofNat len), .null] 6)) (T5.setTop (mkF m 36 #[.val (.ref a), .val (.ref b), .val (.int (Int32.ofNat o)), .val (.int (Int32.ofNat len)), .val .null, .unset] [.int (Int32.ofNat len), .int (Int32.ofNat o), .ref b])) := c6.trans (by
    refine XS.ifNo X5.here hexec rfl (hb hbytes d30) rfl (i0_eq_f hz) ?_
    refine XS.aloadN X5.here hexec rfl (hb hbytes d33) rfl rfl ?_
    refine XS.iloadN X5.here hexec rfl (hb hbytes d34) rfl ?_
    refine XS.iloadN X5.here hexec rfl (hb hbytes d35) rfl ?_
    exact Steps.refl _)
  obtain ⟨v8, T8, X8, E8, g8⟩ := X5.callS hexec (Cmp3.law l b A o len) hown (wks W (staticW "java/lang/String" 177 Cmp3.yN)) (wk W Cmp3.tab) (W := 0) (Nat.le_of_ble_eq_true rfl) (Nat.le_of_ble_eq_true rfl) (Nat.le_refl _) (by show 0 + len ≤ len; omega) (g := (mkF m 36 #[.val (.ref a), .val (.ref b), .val (.int (Int32.ofNat o)), .val (.int (Int32.ofNat len)), .val .null, .unset] [.int (Int32.ofNat len), .int (Int32.ofNat o), .ref b])) rfl (by rw [hml]; rfl) c7 (argsL := [.ref b, .int (Int32.ofNat o), .int (Int32.ofNat len)]) (rest := []) rfl rfl (by show 2 * 0 + 0 ≤ _; decide) (hb hbytes d36) (⟨rfl, hA.mv X5.warmed.alike hh5, l1, l2, hp⟩)
  obtain ⟨e8, z8⟩ := E8
  obtain ⟨rfl, N, n1, n2, n3, n4, n5, n6⟩ := NewArr.mv _ T5 s _ _ hh5.symm (Vm.Alike.refl _) rfl e8
  rw [hh5] at z8
  have hB1 := hB.keep X8.warmed.alike (n6 _ _ hB.1)
  have hne : s.heap.size ≠ a := (Nat.ne_of_lt (Array.getElem?_eq_some_iff.mp hB.1).1).symm
  have c9 : Steps p.tables e below (s₁.setTop (entryFrame m #[.ref a, .ref b, .int (Int32.ofNat o), .int (Int32.ofNat len), .null] 6)) (T8.setTop (mkF m 39 #[.val (.ref a), .val (.ref b), .val (.int (Int32.ofNat o)), .val (.int (Int32.ofNat len)), .val .null, .unset] [.ref s.heap.size])) := g8
  have c10 : Steps p.tables e below (s₁.setTop (entryFrame m #[.ref a, .ref b, .int (Int32.ofNat o), .int (Int32.ofNat len), .null] 6)) (T8.setTop (mkF m 45 #[.val (.ref a), .val (.ref b), .val (.int (Int32.ofNat o)), .val (.int (Int32.ofNat len)), .val .null, .val (.ref s.heap.size)] [.int (Int32.ofNat N.slots.size), .ref s.heap.size, .ref a])) := by
    have hc : Steps p.tables e below (s₁.setTop (entryFrame m #[.ref a, .ref b, .int (Int32.ofNat o), .int (Int32.ofNat len), .null] 6)) (T8.setTop (mkF m 45 #[.val (.ref a), .val (.ref b), .val (.int (Int32.ofNat o)), .val (.int (Int32.ofNat len)), .val .null, .val (.ref s.heap.size)] [.int (Int32.ofNat len), .ref s.heap.size, .ref a])) := c9.trans (by
      refine XS.astore X8.here hexec rfl (hb hbytes d39) rfl rfl rfl ?_
      refine XS.aloadN X8.here hexec rfl (hb hbytes d41) rfl rfl ?_
      refine XS.aload X8.here hexec rfl (hb hbytes d42) rfl rfl ?_
      refine XS.iloadN X8.here hexec rfl (hb hbytes d44) rfl ?_
      exact Steps.refl _)
    rw [n4]; exact hc
  obtain ⟨v11, T11, X11, E11, g11⟩ := X8.callS hexec (CodL.law l s.heap.size N) hown (wks W (staticW "java/lang/String" 47 CodL.yN)) (wk W CodL.tab) (W := 1) (Nat.le_of_ble_eq_true rfl) (Nat.le_of_ble_eq_true rfl) (Nat.le_refl _) (by show 0 + len + 0 ≤ len; omega) (g := (mkF m 45 #[.val (.ref a), .val (.ref b), .val (.int (Int32.ofNat o)), .val (.int (Int32.ofNat len)), .val .null, .val (.ref s.heap.size)] [.int (Int32.ofNat N.slots.size), .ref s.heap.size, .ref a])) rfl (by rw [hml]; rfl) c10 (argsL := [.ref s.heap.size, .int (Int32.ofNat N.slots.size)]) (rest := [.ref a]) rfl rfl (by show 2 * 0 + (1 + 0) ≤ _; decide) (hb hbytes d45) (⟨rfl, n1⟩)
  obtain ⟨rfl, q11⟩ := E11
  have hB11 := hB1.mv (X8.warmed.alike.symm.trans X11.warmed.alike) q11
  have c12 : Steps p.tables e below (s₁.setTop (entryFrame m #[.ref a, .ref b, .int (Int32.ofNat o), .int (Int32.ofNat len), .null] 6)) (T11.setTop (mkF m 48 #[.val (.ref a), .val (.ref b), .val (.int (Int32.ofNat o)), .val (.int (Int32.ofNat len)), .val .null, .val (.ref s.heap.size)] [.int 0, .ref a])) := g11
  obtain ⟨T13, X13, p13, bl13, sl13, st13⟩ := X11.finit hexec hown (wk W (.fieldLink "java/lang/String" 15 "java/lang/String" "coder" "B")) (Or.inr ⟨_, (wk W (.laysFinal "java/lang/String" "java/lang/String" "coder" "B"))⟩) (Or.inl ⟨rfl, hnm⟩) f2 (Or.inl rfl) hB11 (t := .byte) (by decide +kernel) rfl (g := (mkF m 48 #[.val (.ref a), .val (.ref b), .val (.int (Int32.ofNat o)), .val (.int (Int32.ofNat len)), .val .null, .val (.ref s.heap.size)] [.int 0, .ref a])) rfl (rest := []) rfl (hb hbytes d48)
  have c14 : Steps p.tables e below (s₁.setTop (entryFrame m #[.ref a, .ref b, .int (Int32.ofNat o), .int (Int32.ofNat len), .null] 6)) (T13.setTop (mkF m 54 #[.val (.ref a), .val (.ref b), .val (.int (Int32.ofNat o)), .val (.int (Int32.ofNat len)), .val .null, .val (.ref s.heap.size)] [.ref s.heap.size, .ref a])) := (c12.trans (st13 _ (Steps.refl _))).trans (by
    refine XS.aloadN X13.here hexec rfl (hb hbytes d51) rfl rfl ?_
    refine XS.aload X13.here hexec rfl (hb hbytes d52) rfl rfl ?_
    exact Steps.refl _)
  obtain ⟨T15, X15, p15, bl15, sl15, st15⟩ := X13.finit hexec hown (wk W (.fieldLink "java/lang/String" 9 "java/lang/String" "value" "[B")) (Or.inr ⟨_, (wk W (.laysFinal "java/lang/String" "java/lang/String" "value" "[B"))⟩) (Or.inl ⟨rfl, hnm⟩) f1 (Or.inl rfl) bl13 (t := (.array .byte)) (by decide +kernel) rfl (g := (mkF m 54 #[.val (.ref a), .val (.ref b), .val (.int (Int32.ofNat o)), .val (.int (Int32.ofNat len)), .val .null, .val (.ref s.heap.size)] [.ref s.heap.size, .ref a])) rfl (rest := []) rfl (hb hbytes d54)
  have c16 : Steps p.tables e below (s₁.setTop (entryFrame m #[.ref a, .ref b, .int (Int32.ofNat o), .int (Int32.ofNat len), .null] 6)) (T15.setTop (mkF m 57 #[.val (.ref a), .val (.ref b), .val (.int (Int32.ofNat o)), .val (.int (Int32.ofNat len)), .val .null, .val (.ref s.heap.size)] [])) := c14.trans (st15 _ (Steps.refl _))
  have ap := apart (Or.inr ⟨_, (wk W (.laysFinal "java/lang/String" "java/lang/String" "value" "[B"))⟩) (Or.inr ⟨_, (wk W (.laysFinal "java/lang/String" "java/lang/String" "coder" "B"))⟩) f1 f2 (t₁ := .array .byte) (t₂ := .byte) (by decide +kernel) (by decide +kernel) (by decide)
  have al := X8.warmed.alike.symm.trans X15.warmed.alike
  have n7 : T11.heap[s.heap.size]? = some N := by rw [q11]; exact n1.1
  exact ⟨T15, none, _, _, _, X15, by simp, rfl, by omega, (fun _ => rfl), ⟨rfl, _, N, bl15, ((Same.refl D _).set _ (by simp)).set _ (by simp), sl15, (Cell.slots_setSlot_ne _ ap).trans sl13, n1.keep al (p15.other hne (p13.other hne n7)), n2, by rw [al.findClass]; exact n3, n4, n5, fun y c h1 h2 => p15.other h1 (p13.other h1 (by rw [q11]; exact n6 y c h2)), by rw [p15.2.2, p13.2.2, q11]; exact z8⟩, fun fs hl => c16.trans (X15.returnOut hexec hret (hb hbytes d57) hl)⟩
end New4
namespace New1
def yN : MethodName := ⟨"java/lang/String", "<init>", "([C)V"⟩
abbrev yB : ByteArray := jdk_42_method_3_code
theorem d0 : decode yB 0 = .ok (.aload_n 0, 1) := by decide +kernel
theorem d1 : decode yB 1 = .ok (.aload_n 1, 1) := by decide +kernel
theorem d2 : decode yB 2 = .ok (.iconst 0, 1) := by decide +kernel
theorem d3 : decode yB 3 = .ok (.aload_n 1, 1) := by decide +kernel
theorem d4 : decode yB 4 = .ok (.arraylength, 1) := by decide +kernel
theorem d5 : decode yB 5 = .ok (.aconst_null, 1) := by decide +kernel
theorem d6 : decode yB 6 = .ok (.invokespecial 27, 3) := by decide +kernel
theorem d9 : decode yB 9 = .ok (.return_, 1) := by decide +kernel
def site : List Cond := [New4.tab] ++ initW "java/lang/String" 27 New4.yN
def tab : Cond := tabOf yN yB 2 none site
def P (a : Addr) (D : Cell) (fV fC : Field) (b : Addr) (A : Cell) (z : Int32) (args : Array Value) (s : State) : Prop := args = #[.ref a, .ref b] ∧ Blank "java/lang/String" a D s ∧ Found "java/lang/String" "value" "[B" fV s ∧ Found "java/lang/String" "coder" "B" fC s ∧ Ch b A s ∧ StaticIs s "java/lang/String" "COMPACT_STRINGS" "Z" (.int z) ∧ ¬ z = 0 ∧ 0 < A.slots.size ∧ A.slots.size ≤ 536870912 ∧ ∀ i, i < A.slots.size → ¬ 255 < cv A i
def E (a : Addr) (D : Cell) (fV fC : Field) (A : Cell) (r : Option Value) (s u : State) : Prop := Got a D fV fC A 0 A.slots.size r s u
/-- new String(chars), not empty, no char above 255: a Latin-1 String of their low bytes -/
theorem law (l : Launch) (a : Addr) (D : Cell) (fV fC : Field) (b : Addr) (A : Cell) (z : Int32) : Law l yN 2 1 3 52 yB 2 none site (P a D fV fC b A z) (E a D fV fC A) [⟨a, fC.slot⟩, ⟨a, fV.slot⟩] 1 A.slots.size := by
  refine Law.of_walk (plainFor_of_name (by decide +kernel)) (by decide +kernel) (by decide +kernel) (by decide) (fun _ _ h => by rw [h.1]; rfl) (fun _ U U' hal hh h => ⟨h.1, h.2.1.mv hal hh, h.2.2.1.al hal, h.2.2.2.1.al hal, h.2.2.2.2.1.mv hal hh, h.2.2.2.2.2.1.there hal hh, h.2.2.2.2.2.2⟩) (fun r U U' V V' h1 hal h2 h => Got.mv r U U' V V' h1 hal h2 h) ?_
  intro p e s m args below meth c s₁ X0 hexec hbytes hml hret hlk hnm hown hh0 W hP
  obtain ⟨rfl, hB, f1, f2, hA, s1, hz, l0, l2, hp⟩ := hP
  have c1 : Steps p.tables e below (s₁.setTop (entryFrame m #[.ref a, .ref b] 2)) (s₁.setTop (mkF m 0 #[.val (.ref a), .val (.ref b)] [])) := entry rfl
  have c2 : Steps p.tables e below (s₁.setTop (entryFrame m #[.ref a, .ref b] 2)) (s₁.setTop (mkF m 6 #[.val (.ref a), .val (.ref b)] [.null, .int (Int32.ofNat A.slots.size), .int 0, .ref b, .ref a])) := c1.trans (by
    refine XS.aloadN X0.here hexec rfl (hb hbytes d0) rfl rfl ?_
    refine XS.aloadN X0.here hexec rfl (hb hbytes d1) rfl rfl ?_
    refine iconstV X0.here hexec rfl 0 (hb hbytes d2) (by decide) ?_
    refine XS.aloadN X0.here hexec rfl (hb hbytes d3) rfl rfl ?_
    refine X0.alen hexec (hA.1.mv X0.warmed.alike hh0) rfl rfl (hb hbytes d4) ?_
    refine XS.aconstNull X0.here hexec rfl (hb hbytes d5) ?_
    exact Steps.refl _)
  obtain ⟨v3, T3, X3, E3, g3⟩ := X0.callN hexec (New4.law l a D fV fC b A z 0 A.slots.size) rfl hown (wks W (initW "java/lang/String" 27 New4.yN)) (W New4.tab (by simp only [site, List.mem_cons, List.mem_append, true_or, or_true])) (W := 0) (Nat.le_of_ble_eq_true rfl) (Nat.le_of_ble_eq_true rfl) (Nat.le_refl _) (by show 0 + A.slots.size ≤ A.slots.size; omega) (g := (mkF m 6 #[.val (.ref a), .val (.ref b)] [.null, .int (Int32.ofNat A.slots.size), .int (Int32.ofNat 0), .ref b, .ref a])) rfl (by rw [hml]; rfl) c2 (argsL := [.ref b, .int (Int32.ofNat 0), .int (Int32.ofNat A.slots.size), .null]) (rest := []) rfl rfl (by show 2 * 0 + 0 ≤ _; decide) (hb hbytes d6) (⟨rfl, hB.mv X0.warmed.alike hh0, f1.al X0.warmed.alike, f2.al X0.warmed.alike, hA.mv X0.warmed.alike hh0, s1.there X0.warmed.alike hh0, hz, l0, by omega, l2, fun i hi => by rw [Nat.zero_add]; exact hp i hi⟩)
  have e0 := Got.mv _ s₁ s _ _ hh0.symm (Vm.Alike.refl _) rfl E3
  obtain rfl := e0.1
  have c4 : Steps p.tables e below (s₁.setTop (entryFrame m #[.ref a, .ref b] 2)) (T3.setTop (mkF m 9 #[.val (.ref a), .val (.ref b)] [])) := g3
  exact ⟨T3, none, _, _, _, X3, by simp, rfl, by omega, (fun _ => rfl), e0, fun fs hl => c4.trans (X3.returnOut hexec hret (hb hbytes d9) hl)⟩
theorem pays {l : Launch} {R : Room} {p : Program} {e : Env} {below : List Frame} {s : State} {sargs : Array Value} {len W : Nat} (a : Addr) (D : Cell) (fV fC : Field) (b : Addr) (A : Cell) (z : Int32) (htab : tab.before sargs s = true) (hfr : 4 ≤ R.frames) (hlo : W + 65 ≤ R.locals) :
    Back l R p e below s sargs yN len W (fun A₁ a₁ => A₁.cells + 1 ≤ R.cells ∧ A₁.slots + A.slots.size ≤ R.slots ∧ P a D fV fC b A z a₁ A₁.U) (fun A₁ _ v₁ B₁ => E a D fV fC A v₁ A₁.U B₁.U ∧ B₁.locs = A₁.locs ++ [⟨a, fC.slot⟩, ⟨a, fV.slot⟩] ∧ B₁.cells = A₁.cells + 1 ∧ B₁.slots = A₁.slots + A.slots.size) :=
  (law l a D fV fC b A z).pays htab hfr (by omega)
end New1
end StrChars
namespace StrChars.Road
open Jvm Sem ClassFile Op Lib Jvm.Stand Jvm.Free Jvm.Free.XT
open Jvm.Lib.Cold (StaticIs)
abbrev ST : String := "java/lang/String"
/-- every table word that New1's law asks, flat -/
abbrev words : List Jvm.Cond := [.code New1.yN New1.yB 2 none, .initialized ST, .methodLink ST 27 New4.yN, .instanceMethod New4.yN,
  .code New4.yN New4.yB 6 none, .fieldLink ST 38 ST "COMPACT_STRINGS" "Z", .laysFinal ST ST "value" "[B", .fieldLink ST 9 ST "value" "[B", .laysFinal ST ST "coder" "B", .fieldLink ST 15 ST "coder" "B",
  .methodLink ST 1 Lib.objectInit, .instanceMethod Lib.objectInit, .code Lib.objectInit ⟨#[0xb1]⟩ 1 none, .methodLink ST 177 Cmp3.yN, .static Cmp3.yN, .methodLink ST 47 CodL.yN, .static CodL.yN,
  .code Cmp3.yN Cmp3.yB 6 (some (.array .byte)), .initialized U16, .arrayClass .byte, .methodLink U16 115 Cmp5.yN, .static Cmp5.yN, .code Cmp5.yN Cmp5.yB 7 (some .int), .code CodL.yN CodL.yB 2 (some .byte)]
theorem tab_of {a : Array Value} {s : State} (h : ∀ w ∈ words, w.before a s = true) : New1.tab.before a s = true := by
  have h5 : Cmp5.tab.before a s = true := unparts (wk h (.code Cmp5.yN Cmp5.yB 7 (some .int))) (wks h (.initialized Cmp5.yN.cls :: Cmp5.site))
  have hc : CodL.tab.before a s = true := unparts (wk h (.code CodL.yN CodL.yB 2 (some .byte))) (wks h (.initialized CodL.yN.cls :: CodL.site))
  have q5 : ∀ w ∈ Cmp5.tab :: words, w.before a s = true := fun w hw => (List.mem_cons.mp hw).elim (fun e => e ▸ h5) (h w)
  have h3 : Cmp3.tab.before a s = true := unparts (wk q5 (.code Cmp3.yN Cmp3.yB 6 (some (.array .byte)))) (wks q5 (.initialized Cmp3.yN.cls :: Cmp3.site))
  have q3 : ∀ w ∈ Cmp3.tab :: CodL.tab :: words, w.before a s = true := fun w hw => (List.mem_cons.mp hw).elim (fun e => e ▸ h3) fun hw => (List.mem_cons.mp hw).elim (fun e => e ▸ hc) (h w)
  have h4 : New4.tab.before a s = true := unparts (wk q3 (.code New4.yN New4.yB 6 none)) (wks q3 (.initialized New4.yN.cls :: New4.site))
  have q4 : ∀ w ∈ New4.tab :: words, w.before a s = true := fun w hw => (List.mem_cons.mp hw).elim (fun e => e ▸ h4) (h w)
  exact unparts (wk q4 (.code New1.yN New1.yB 2 none)) (wks q4 (.initialized New1.yN.cls :: New1.site))
/-- the words ride from the start Z to the walk's own state -/
theorem moved {Z s : State} {a0 args : Array Value} (hZ : Z.Warmed39 s.vm) (hw : ∀ d ∈ words, d.before a0 Z = true) : ∀ d ∈ words, d.before args s = true := fun d hd => by
  have q := hw d hd
  have t : ∀ d ∈ words, d = .arrayClass .byte ∨ (d.onTables && d.keepsFace) = true := by decide +kernel
  rcases t d hd with rfl | t
  · exact RoadKit.mvA hZ q
  · exact RoadKit.mv hZ q t
/-- WHAT COMES BACK, over the tables of the start Z: h the heap at the call, h' behind it -/
def Q (Z : State) (x : Addr) (A : Cell) (h : Heap) (v : Option Value) (h' : Heap) (L : List Loc) : Prop := v = none ∧ (∀ y ∈ L, y.base = x) ∧ RoadKit.Keep h h' [x] ∧ h'.size = h.size + 1 ∧ RoadKit.Exa Z h' x ST ∧ RoadKit.Fld Z h' x ST "value" "[B" (.ref h.size) ∧ RoadKit.Fld Z h' x ST "coder" "B" (.int 0) ∧
  (∃ V : Cell, RoadKit.Arr Z h' h.size V .byte ∧ V.vm = .none ∧ Z.vm.findClass "[B" = some V.cls ∧ V.slots.size = A.slots.size ∧ ∀ j, j < A.slots.size → V.slots[j]? = some (.int (lo8 (cv A j)))) ∧
  ∀ (O n d : String) (w : Value), RoadKit.Fld Z h x O n d w → RoadKit.slotOf Z O n d ≠ RoadKit.slotOf Z ST "value" "[B" → RoadKit.slotOf Z O n d ≠ RoadKit.slotOf Z ST "coder" "B" → RoadKit.Fld Z h' x O n d w
/-- **new String(chars) AT A CALL, IN THE ROAD'S FORM**: for specialBack behind newO: x the fresh String, b the char[] with the cell A -/
theorem back {p : Program} {l : Launch} {e : Env} {R : Room} {s : State} {args : Array Value} {below : List Frame} {len W : Nat} {Z : State} {a0 : Array Value} {h : Heap} (hZ : Z.Warmed39 s.vm) (hw : ∀ d ∈ words, d.before a0 Z = true) {kI : Nat} (wi : (Jvm.Cond.instantiable ST kI).before a0 Z = true)
    {x b : Addr} {A : Cell} {z : Int32} {v0 c0 : Value} (E : RoadKit.Exa Z h x ST) (V : RoadKit.Fld Z h x ST "value" "[B" v0) (C : RoadKit.Fld Z h x ST "coder" "B" c0) (K : RoadKit.Arr Z h b A .char) (hty : Typed .char A) (S : RoadKit.Sta Z h ST "COMPACT_STRINGS" "Z" (.int z)) (hz : ¬ z = 0)
    (l0 : 0 < A.slots.size) (l2 : A.slots.size ≤ 536870912) (hp : ∀ i, i < A.slots.size → ¬ 255 < cv A i) (hfr : 4 ≤ R.frames) (hlo : W + 65 ≤ R.locals) :
    Back l R p e below s args New1.yN len W (fun P a => a = #[.ref x, .ref b] ∧ P.U.heap = h ∧ P.cells + 1 ≤ R.cells ∧ P.slots + A.slots.size ≤ R.slots)
      (fun P _ v B => ∃ L, Q Z x A h v B.U.heap L ∧ B.locs = P.locs ++ L ∧ B.cells = P.cells + 1 ∧ B.slots = P.slots + A.slots.size) := by
  intro m meth c P g ig mk a X hg hsize hdg hW hn hp'
  obtain ⟨rfl, rfl, r1, r2⟩ := hp'
  have al : Z.vm.Alike P.U.vm := hZ.alike.trans X.warmed.alike
  obtain ⟨D, cfV, kV, iV, fV, hD, gV, stV, knV, obV, asV, slV⟩ := id V
  obtain ⟨D', cfC, kC, iC, fC, hD', gC, stC, -, -, asC, slC⟩ := id C
  cases hD.symm.trans hD'
  obtain ⟨D2, kD, e1, e2, e3, e4, e5⟩ := id E
  cases hD.symm.trans e1
  obtain ⟨c2, k2, i1, i2, i3, -⟩ := Cond.instantiable_spec wi
  cases e2.symm.trans i1
  cases e3.symm.trans i2
  obtain ⟨kU, u1, u2⟩ := al.2.2 _ _ e3
  have hB : Blank ST x D P.U := ⟨hD, ⟨knV, fun q hq => by rw [hq] at obV; cases obV⟩, by rw [al.findClass]; exact e2, kU, u1, by rw [u2]; exact i3, by rw [u2]; exact e5 i3⟩
  have F1 : Found ST "value" "[B" fV P.U := ⟨SBG.found_only al ⟨cfV, kV, iV, gV⟩, stV⟩
  have F2 : Found ST "coder" "B" fC P.U := ⟨SBG.found_only al ⟨cfC, kC, iC, gC⟩, stC⟩
  have hA : Ch b A P.U := ⟨⟨K.1, State.isArrayOf_alike al K.2.1, K.2.2, by omega⟩, hty⟩
  have hS : StaticIs P.U ST "COMPACT_STRINGS" "Z" (.int z) := by
    obtain ⟨cfS, iS, kS, fS, st, cS, t1, t2, t3, t4, t5, t6, t7⟩ := S
    exact StaticIs.there (s := { Z with heap := P.U.heap }) ⟨cfS, iS, kS, fS, st, cS, t1, t2, t3, t4, t5, (fun q => by rw [q] at t6; cases t6), t7⟩ al rfl
  obtain ⟨v, B, X', ⟨⟨hv, E', V', q1, q2, q3, q4, q5, q6, q7, q8, q9, q10, q11⟩, hl, hc, hs⟩, st⟩ := New1.pays x D fV fC b A z (tab_of (moved hZ hw)) hfr hlo m meth c P g ig mk _ X hg hsize hdg hW hn ⟨r1, r2, rfl, hB, F1, F2, hA, hS, hz, l0, l2, hp⟩
  have al' : Z.vm.Alike B.U.vm := hZ.alike.trans X'.warmed.alike
  have hsz : E'.slots.size = D.slots.size := by
    obtain ⟨-, -, -, kB, w1, w2, w3⟩ := q1
    obtain ⟨kB', y1, y2⟩ := al'.2.2 _ _ e3
    rw [q2.2.1] at w1
    cases w1.symm.trans y1
    rw [w3, e5 i3, y2]
  refine ⟨v, B, X', ⟨_, ⟨hv, ?_, ⟨by omega, fun y cy hy hn' => q10 y cy (by simpa using hn') hy, fun y cy hy => ?_⟩, q11, ⟨E', _, q1.1, by rw [q2.2.1]; exact e2, by rw [q2.2.1]; exact e3, by rw [q2.1]; exact obV, fun _ => by rw [hsz]; exact e5 i3⟩,
    ⟨E', cfV, kV, iV, fV, q1.1, gV, stV, by rw [q2.1]; exact knV, by rw [q2.1]; exact obV, by rw [q2.2.1]; exact asV, q3⟩, ⟨E', cfC, kC, iC, fC, q1.1, gC, stC, by rw [q2.1]; exact knV, by rw [q2.1]; exact obV, by rw [q2.2.1]; exact asC, q4⟩,
    ⟨V', ⟨q5.1, State.isArrayOf_alike al'.symm q5.2.1, q5.2.2.1⟩, q6, by rw [← al'.findClass]; exact q7, q8, fun j hj => by have := q9 j hj; rwa [Nat.zero_add] at this⟩, fun O n d w F n1 n2 => ?_⟩, hl, hc, hs⟩, st⟩
  · intro y hy
    simp only [List.mem_cons, List.not_mem_nil, or_false] at hy
    rcases hy with rfl | rfl <;> rfl
  · by_cases q : y = x
    · subst q
      cases hD.symm.trans hy
      exact ⟨E', q1.1, q2.2.1, q2.1, hsz⟩
    · exact ⟨cy, q10 y cy q hy, rfl, rfl, rfl⟩
  · obtain ⟨D3, cf, k, i, f, g1, g2, g3, g4, g5, g6, g7⟩ := F
    cases hD.symm.trans g1
    simp only [RoadKit.slotOf, g2, gV, gC, Option.map_some, Option.getD_some] at n1 n2
    exact ⟨E', cf, k, i, f, q1.1, g2, g3, by rw [q2.1]; exact g4, by rw [q2.1]; exact g5, by rw [q2.2.1]; exact g6, by rw [q2.2.2 f.slot (by simp [n1, n2])]; exact g7⟩
end StrChars.Road
namespace StrChars.Road
open Jvm Sem ClassFile Op Lib Jvm.Stand Jvm.Free Jvm.Free.XT
/-- WHAT COMES BACK, the byte[] as a list of values -/
def QA (Z : State) (x : Addr) (zn : Int32) (cs : List Int32) (h : Heap) (v : Option Value) (h' : Heap) (L : List Loc) : Prop := v = none ∧ (∀ y ∈ L, y.base = x) ∧ RoadKit.Keep h h' [x] ∧ h'.size = h.size + 1 ∧ RoadKit.Exa Z h' x ST ∧ RoadKit.Fld Z h' x ST "value" "[B" (.ref h.size) ∧ RoadKit.Fld Z h' x ST "coder" "B" (.int 0) ∧
  (∃ kb, Z.vm.findClass "[B" = some kb ∧ RoadKit.Arv Z h' h.size kb .byte zn (cs.map fun c => .int (lo8 c)) (.int 0)) ∧
  ∀ (O n d : String) (w : Value), RoadKit.Fld Z h x O n d w → RoadKit.slotOf Z O n d ≠ RoadKit.slotOf Z ST "value" "[B" → RoadKit.slotOf Z O n d ≠ RoadKit.slotOf Z ST "coder" "B" → RoadKit.Fld Z h' x O n d w
/-- **new String(chars) AT A CALL, THE ARRAYS AS LISTS**: the char[] at b holds cs, not empty, no char above 255 -/
theorem backArv {p : Program} {l : Launch} {e : Env} {R : Room} {s : State} {args : Array Value} {below : List Frame} {len W : Nat} {Z : State} {a0 : Array Value} {h : Heap} (hZ : Z.Warmed39 s.vm) (hw : ∀ d ∈ words, d.before a0 Z = true) {kI : Nat} (wi : (Jvm.Cond.instantiable ST kI).before a0 Z = true)
    {x b : Addr} {k : ClassId} {zn z : Int32} {cs : List Int32} {dv v0 c0 : Value} (E : RoadKit.Exa Z h x ST) (V : RoadKit.Fld Z h x ST "value" "[B" v0) (C : RoadKit.Fld Z h x ST "coder" "B" c0) (K : RoadKit.Arv Z h b k .char zn (cs.map Value.int) dv) (S : RoadKit.Sta Z h ST "COMPACT_STRINGS" "Z" (.int z)) (hz : ¬ z = 0)
    (hlen : zn.toNatClampNeg = cs.length) (h0 : 0 < cs.length) (hbig : cs.length ≤ 536870912) (hall : ∀ c ∈ cs, ¬ 255 < c) (hfr : 4 ≤ R.frames) (hlo : W + 65 ≤ R.locals) :
    Back l R p e below s args New1.yN len W (fun P a => a = #[.ref x, .ref b] ∧ P.U.heap = h ∧ P.cells + 1 ≤ R.cells ∧ P.slots + cs.length ≤ R.slots)
      (fun P _ v B => ∃ L, QA Z x zn cs h v B.U.heap L ∧ B.locs = P.locs ++ L ∧ B.cells = P.cells + 1 ∧ B.slots = P.slots + cs.length) := by
  obtain ⟨A, K1, K2, K3, K4, K5, K6⟩ := K
  have e : A.slots.size = cs.length := K3.trans hlen
  have hat : ∀ (i : Nat) (hi : i < cs.length), A.slots[i]? = some (.int cs[i]) := fun i hi => by rw [K5 i (by omega)]; simp [List.getD_eq_getElem?_getD, hi]
  have hcv : ∀ (i : Nat) (hi : i < cs.length), cv A i = cs[i] := fun i hi => by unfold cv; rw [hat i hi]
  have hty : Typed .char A := fun i v hv => by
    have hi : i < A.slots.size := (Array.getElem?_eq_some_iff.mp hv).1
    have q := K5 i hi
    rw [hv] at q
    rw [Option.some.inj q]
    exact K6 i hi
  refine Back.mono (back hZ hw wi E V C K1 hty S hz (by omega) (by omega) (fun i hi => by rw [hcv i (by omega)]; exact hall _ (List.getElem_mem _)) hfr hlo) (fun P a hp => ⟨hp.1, hp.2.1, hp.2.2.1, by rw [e]; exact hp.2.2.2⟩) (fun P a v B hp hq => ?_)
  obtain ⟨L, ⟨q1, q2, q3, q4, q5, q6, q7, ⟨V', v1, v2, v3, v4, v5⟩, q9⟩, hl, hc, hs⟩ := hq
  refine ⟨L, ⟨q1, q2, q3, q4, q5, q6, q7, ⟨V'.cls, v3, V', v1, rfl, by rw [v4, e, hlen], K4, fun i hi => ?_, fun i hi => ?_⟩, q9⟩, hl, hc, by rw [hs, e]⟩
  · have hi' : i < cs.length := by omega
    rw [v5 i (by omega), hcv i hi']; simp [List.getD_eq_getElem?_getD, hi']
  · have hi' : i < cs.length := by omega
    simp only [List.getD_eq_getElem?_getD, List.getElem?_map, List.getElem?_eq_getElem hi', Option.map_some, Option.getD_some]
    exact fits_lo8 _
end StrChars.Road
namespace StrChars.Road
open Jvm Sem ClassFile Op Lib Jvm.Stand Jvm.Free Jvm.Free.XT
/-- WHAT COMES BACK, in the writer's own shape -/
def QV (Z : State) (x : Addr) (N : Int32) (bs : List Int32) (h : Heap) (n0 : Nat) (v : Option Value) (h' : Heap) (L : List Loc) : Prop := v = none ∧ RoadKit.Fr n0 L ∧ RoadKit.Keep h h' [x] ∧ RoadKit.Exa Z h' x ST ∧ RoadKit.Fld Z h' x ST "coder" "B" (.int 0) ∧
  ∃ (t : Addr) (kb : ClassId), n0 ≤ t ∧ h.size ≤ t ∧ ¬ t = x ∧ RoadKit.Fld Z h' x ST "value" "[B" (.ref t) ∧ RoadKit.Arv Z h' t kb .byte N (bs.map Value.int) (.int 0)
/-- **new String(chars) AT A CALL, FOR THE WRITER**: a char[] of n known ints, each 0 to 255 -/
theorem backV {p : Program} {l : Launch} {e : Env} {R : Room} {s : State} {args : Array Value} {below : List Frame} {len W : Nat} {Z : State} {a0 : Array Value} {h : Heap} (hZ : Z.Warmed39 s.vm) (hw : ∀ d ∈ words, d.before a0 Z = true) {kI : Nat} (wi : (Jvm.Cond.instantiable ST kI).before a0 Z = true)
    {x b : Addr} {kC : ClassId} {cs bs : List Int32} {d v0 c0 : Value} {z N : Int32} {n n0 : Nat} (hx0 : n0 ≤ x) (hh0 : n0 ≤ h.size) (E : RoadKit.Exa Z h x ST) (V : RoadKit.Fld Z h x ST "value" "[B" v0) (C : RoadKit.Fld Z h x ST "coder" "B" c0) (K : RoadKit.Arv Z h b kC .char N (cs.map Value.int) d) (S : RoadKit.Sta Z h ST "COMPACT_STRINGS" "Z" (.int z)) (hz : ¬ z = 0)
    (hn : cs.length = n) (hN : N = Int32.ofNat n) (l0 : 0 < n) (l2 : n ≤ 4000) (hp : ∀ c ∈ cs, ¬ c < 0 ∧ ¬ (255 : Int32) < c) (hb : bs = cs.map (fun c => c.toInt8.toInt32)) (hfr : 4 ≤ R.frames) (hlo : W + 65 ≤ R.locals) :
    Back l R p e below s args (⟨"java/lang/String", "<init>", "([C)V"⟩ : MethodName) len W (fun P a => a = #[.ref x, .ref b] ∧ P.U.heap = h ∧ P.cells + 1 ≤ R.cells ∧ P.slots + n ≤ R.slots)
      (fun P _ v B => ∃ L, QV Z x N bs h n0 v B.U.heap L ∧ B.locs = P.locs ++ L ∧ B.cells = P.cells + 1 ∧ B.slots = P.slots + n) := by
  subst hn hN hb
  refine Back.mono (backArv hZ hw wi E V C K S hz (n32 (by omega)) l0 (by omega) (fun c hc => (hp c hc).2) hfr hlo) (fun P a hp => hp) (fun P a v B hp hq => ?_)
  obtain ⟨L, ⟨q1, q2, q3, q4, q5, q6, q7, ⟨kb, v1, v2⟩, q9⟩, hl, hc, hs⟩ := hq
  exact ⟨L, ⟨q1, fun y hy => by rw [q2 y hy]; exact hx0, q3, q5, q7, h.size, kb, hh0, Nat.le_refl _, Nat.ne_of_gt E.lt, q6, by rw [List.map_map]; exact v2⟩, hl, hc, hs⟩
end StrChars.Road
namespace StrChars
open Jvm Sem ClassFile Op Lib Jvm.Stand Jvm.Free.XT Jvm.Free.ALB Jvm.Free.JM Jvm.Free
open Jvm.Lib.Cold (StaticIs)
def hi8 (x : Int32) : Int32 := lo8 (x >>> ((8 : Int32) &&& 31))
end StrChars
namespace StrChars.Road
open Jvm Sem ClassFile Op Lib Jvm.Stand Jvm.Free Jvm.Free.XT
open Jvm.Lib.Cold (StaticIs)
/-- the bytes of the chars cs, low before high -/
def wideBytes : List Int32 → List Value
  | [] => []
  | c :: cs => .int (lo8 c) :: .int (hi8 c) :: wideBytes cs
/-- an array of N2 bytes vs codes the chars cs by the coder cd -/
def CodA (cs : List Int32) (cd N2 : Int32) (vs : List Value) : Prop := (cd = 0 ∧ N2 = Int32.ofNat cs.length ∧ vs = (cs.map fun c => Value.int (lo8 c)) ∧ ∀ c ∈ cs, ¬ 255 < c) ∨ (cd = 1 ∧ N2 = Int32.ofNat (2 * cs.length) ∧ vs = wideBytes cs ∧ ∃ c ∈ cs, 255 < c)
end StrChars.Road
namespace StrChars.Road
open Jvm Sem ClassFile Op Lib Jvm.Stand Jvm.Free Jvm.Free.XT
open Jvm.Lib.Cold (StaticIs)
/-- what backV says of its String, as the contracts of this text ask it: cs's low bytes, coder 0 -/
theorem codOf {cs : List Int32} {n : Nat} (hn : cs.length = n) (hb : ∀ c ∈ cs, ¬ 255 < c) : CodA cs 0 (Int32.ofNat n) ((cs.map lo8).map Value.int) := Or.inl ⟨rfl, by rw [hn], by simp [List.map_map, Function.comp_def], hb⟩
end StrChars.Road
end Jvm.Pilot.@@N@@
namespace Jvm.Pilot.@@N@@
open Jvm Jvm.ClassFile Sem Op Lib Jvm.Free Jvm.Stand Jvm.LawKit Jvm.RoadKit Bundle Jvm.Pilot.@@N@@.Jvm.D
section OwnKit
variable {p : Program} {l : Launch} {e : Env} {R : Room} {s : State} {m : MethodId} {args : Array Value} {below : List Frame} {meth : Method} {c : Code} {T : State} {locs : List Loc} {cells slots : Nat} {Z : State} {a0 : Array Value} {h : Heap} {Φ : Outcome → State → Prop}
def own_ushr (x y : Int32) : Int32 := (x.toUInt32 >>> (y &&& 31).toUInt32).toInt32
def own_ushrL (x : Int64) (y : Int32) : Int64 := (x.toUInt64 >>> (y &&& 0x3f).toInt64.toUInt64).toInt64
def own_Ends (p : Program) (e : Env) (below : List Frame) (Φ : Outcome → State → Prop) (t : State) : Prop := ∃ s₂ o, Steps p.tables e below t s₂ ∧ s₂.status = .running ∧ Ended s₂ below o ∧ Φ o s₂
theorem own_via {t t' : State} (k : ∀ u, Steps p.tables e below t' u → Steps p.tables e below t u) (h : own_Ends p e below Φ t') : own_Ends p e below Φ t := by
  obtain ⟨s₂, o, h1, h2⟩ := h; exact ⟨s₂, o, k _ h1, h2⟩
theorem own_thru {t t' : State} (k : Steps p.tables e below t t') (h : own_Ends p e below Φ t') : own_Ends p e below Φ t := own_via (fun _ q => k.trans q) h
def own_Post (s : State) (Q : Option Value → Heap → List Loc → Prop) (kc ks : Nat) (o : Outcome) (U : State) : Prop := ∃ v L, o = .returned v ∧ Q v U.heap L ∧ FrameEnd s o U L kc ks
def own_Met (l : Launch) (y : MethodName) (bytes : ByteArray) (maxL : Nat) (ret : Option FieldType) (rm : Room) (Z : State) (as' : Array Value) (h0 : Heap) (Q : Option Value → Heap → List Loc → Prop) : Prop :=
  ∀ ws : List Jvm.Cond, MetFree l y (head1 (Jvm.Cond.code y bytes maxL ret :: ws) rm) (fun a U => a = as' ∧ Z.Warmed39 U.vm ∧ U.heap = h0) (fun _ _ _ _ _ => True) (fun _ U o U' => ∃ v L, o = .returned v ∧ Q v U'.heap L ∧ FrameEnd U o U' L rm.cells rm.slots)
theorem own_met {y : MethodName} {bytes : ByteArray} {maxL : Nat} {ret : Option FieldType} {rm : Room} {as' : Array Value} {h0 : Heap} {Q : Option Value → Heap → List Loc → Prop} (hp : plainFor y = true)
    (body : ∀ (p : Program) (e : Env) (s : State) (m : MethodId) (below : List Frame) (meth : Method) (c : Code) (T : State), p.tables.exec = Jvm.exec → c.code = bytes → c.maxLocals = maxL → Z.Warmed39 s.vm → s.vm.findClass y.cls = some m.cls → meth.name = y.name → meth.sig.returnType = ret → meth.locks = false →
      Stand p l e rm s m as' below meth c T [] 0 0 → T.heap = h0 → s.heap = h0 → own_Ends p e below (own_Post s Q rm.cells rm.slots) (T.setTop (entryFrame m as' maxL))) : own_Met l y bytes maxL ret rm Z as' h0 Q := by
  intro ws
  refine MetFree.of_bodySF hp hisR ?_
  intro p e s m args below meth c s₁ Bd hml0 hP hK
  obtain ⟨rfl, hZ, hh⟩ := hP
  exact body p e s m below meth c s₁ Bd.exec Bd.bytes hml0 hZ (findClass_of_methodNamed Bd.named) (name_of_methodNamed Bd.named Bd.method).1 Bd.returns (BodyLoose.notSynchronized Bd) (Stand.of_body Bd) (by rw [← hh, Bd.state]; rfl) hh
theorem own_oz {n0 : Nat} (O : Old Z n0 h) : n0 ≤ h.size := O.1 ▸ O.2.1
theorem own_entry {g g' : JFrame} (q : g = g') (h : own_Ends p e below Φ (T.setTop g')) : own_Ends p e below Φ (T.setTop g) := q ▸ h
theorem own_iloadN (X : Stand p l e R s m args below meth c T locs cells slots) (hx : p.tables.exec = Jvm.exec) {pc pc' : Nat} {Ls : Array Slot} {rest : List Value} {k : Fin 4} {v : Int32} (hd : decode c.code pc = .ok (.iload_n k, 1)) (hl : Ls[k.val]? = some (.val (.int v))) (hp : pc + 1 = pc') (h : own_Ends p e below Φ (T.setTop (mkF m pc' Ls (.int v :: rest)))) : own_Ends p e below Φ (T.setTop (mkF m pc Ls (rest))) := by
  subst hp; exact own_via (fun _ k => XS.iloadN X.here hx (g := mkF m pc Ls (rest)) rfl hd hl k) h
theorem own_lloadN (X : Stand p l e R s m args below meth c T locs cells slots) (hx : p.tables.exec = Jvm.exec) {pc pc' : Nat} {Ls : Array Slot} {rest : List Value} {k : Fin 4} {v : Int64} (hd : decode c.code pc = .ok (.lload_n k, 1)) (hl : Ls[k.val]? = some (.val (.long v))) (hp : pc + 1 = pc') (h : own_Ends p e below Φ (T.setTop (mkF m pc' Ls (.long v :: rest)))) : own_Ends p e below Φ (T.setTop (mkF m pc Ls (rest))) := by
  subst hp; exact own_via (fun _ k => XS.lloadN X.here hx (g := mkF m pc Ls (rest)) rfl hd hl k) h
theorem own_aloadN (X : Stand p l e R s m args below meth c T locs cells slots) (hx : p.tables.exec = Jvm.exec) {pc pc' : Nat} {Ls : Array Slot} {rest : List Value} {k : Fin 4} {v : Value} (hd : decode c.code pc = .ok (.aload_n k, 1)) (hl : Ls[k.val]? = some (.val v)) (hv : v.isRef = true) (hp : pc + 1 = pc') (h : own_Ends p e below Φ (T.setTop (mkF m pc' Ls (v :: rest)))) : own_Ends p e below Φ (T.setTop (mkF m pc Ls (rest))) := by
  subst hp; exact own_via (fun _ k => XS.aloadN X.here hx (g := mkF m pc Ls (rest)) rfl hd hl hv k) h
theorem own_istoreN (X : Stand p l e R s m args below meth c T locs cells slots) (hx : p.tables.exec = Jvm.exec) {pc pc' : Nat} {Ls : Array Slot} {rest : List Value} {k : Fin 4} {v : Int32} (Ls' : Array Slot) (hd : decode c.code pc = .ok (.istore_n k, 1)) (hl : storeLocals Ls k.val (.int v) = some Ls') (hp : pc + 1 = pc') (h : own_Ends p e below Φ (T.setTop (mkF m pc' Ls' (rest)))) : own_Ends p e below Φ (T.setTop (mkF m pc Ls (.int v :: rest))) := by
  subst hp; exact own_via (fun _ k => XS.istoreN X.here hx (g := mkF m pc Ls (.int v :: rest)) rfl hd rfl hl k) h
theorem own_lstoreN (X : Stand p l e R s m args below meth c T locs cells slots) (hx : p.tables.exec = Jvm.exec) {pc pc' : Nat} {Ls : Array Slot} {rest : List Value} {k : Fin 4} {v : Int64} (Ls' : Array Slot) (hd : decode c.code pc = .ok (.lstore_n k, 1)) (hl : storeLocals Ls k.val (.long v) = some Ls') (hp : pc + 1 = pc') (h : own_Ends p e below Φ (T.setTop (mkF m pc' Ls' (rest)))) : own_Ends p e below Φ (T.setTop (mkF m pc Ls (.long v :: rest))) := by
  subst hp; exact own_via (fun _ k => XS.lstoreN X.here hx (g := mkF m pc Ls (.long v :: rest)) rfl hd rfl hl k) h
theorem own_astoreN (X : Stand p l e R s m args below meth c T locs cells slots) (hx : p.tables.exec = Jvm.exec) {pc pc' : Nat} {Ls : Array Slot} {rest : List Value} {k : Fin 4} {v : Value} (Ls' : Array Slot) (hd : decode c.code pc = .ok (.astore_n k, 1)) (hv : v.isRef = true) (hl : storeLocals Ls k.val v = some Ls') (hp : pc + 1 = pc') (h : own_Ends p e below Φ (T.setTop (mkF m pc' Ls' (rest)))) : own_Ends p e below Φ (T.setTop (mkF m pc Ls (v :: rest))) := by
  subst hp; exact own_via (fun _ k => XS.astoreN X.here hx (g := mkF m pc Ls (v :: rest)) rfl hd rfl hv hl k) h
theorem own_iload (X : Stand p l e R s m args below meth c T locs cells slots) (hx : p.tables.exec = Jvm.exec) {pc pc' : Nat} {Ls : Array Slot} {rest : List Value} {k : Nat} {v : Int32} (hd : decode c.code pc = .ok (.iload k, 2)) (hl : Ls[k]? = some (.val (.int v))) (hp : pc + 2 = pc') (h : own_Ends p e below Φ (T.setTop (mkF m pc' Ls (.int v :: rest)))) : own_Ends p e below Φ (T.setTop (mkF m pc Ls (rest))) := by
  subst hp; exact own_via (fun _ k => XS.iload X.here hx (g := mkF m pc Ls (rest)) rfl hd hl k) h
theorem own_lload (X : Stand p l e R s m args below meth c T locs cells slots) (hx : p.tables.exec = Jvm.exec) {pc pc' : Nat} {Ls : Array Slot} {rest : List Value} {k : Nat} {v : Int64} (hd : decode c.code pc = .ok (.lload k, 2)) (hl : Ls[k]? = some (.val (.long v))) (hp : pc + 2 = pc') (h : own_Ends p e below Φ (T.setTop (mkF m pc' Ls (.long v :: rest)))) : own_Ends p e below Φ (T.setTop (mkF m pc Ls (rest))) := by
  subst hp; exact own_via (fun _ k => XS.lload X.here hx (g := mkF m pc Ls (rest)) rfl hd hl k) h
theorem own_aload (X : Stand p l e R s m args below meth c T locs cells slots) (hx : p.tables.exec = Jvm.exec) {pc pc' : Nat} {Ls : Array Slot} {rest : List Value} {k : Nat} {v : Value} (hd : decode c.code pc = .ok (.aload k, 2)) (hl : Ls[k]? = some (.val v)) (hv : v.isRef = true) (hp : pc + 2 = pc') (h : own_Ends p e below Φ (T.setTop (mkF m pc' Ls (v :: rest)))) : own_Ends p e below Φ (T.setTop (mkF m pc Ls (rest))) := by
  subst hp; exact own_via (fun _ k => XS.aload X.here hx (g := mkF m pc Ls (rest)) rfl hd hl hv k) h
theorem own_istore (X : Stand p l e R s m args below meth c T locs cells slots) (hx : p.tables.exec = Jvm.exec) {pc pc' : Nat} {Ls : Array Slot} {rest : List Value} {k : Nat} {v : Int32} (Ls' : Array Slot) (hd : decode c.code pc = .ok (.istore k, 2)) (hl : storeLocals Ls k (.int v) = some Ls') (hp : pc + 2 = pc') (h : own_Ends p e below Φ (T.setTop (mkF m pc' Ls' (rest)))) : own_Ends p e below Φ (T.setTop (mkF m pc Ls (.int v :: rest))) := by
  subst hp; exact own_via (fun _ k => XS.istore X.here hx (g := mkF m pc Ls (.int v :: rest)) rfl hd rfl hl k) h
theorem own_lstore (X : Stand p l e R s m args below meth c T locs cells slots) (hx : p.tables.exec = Jvm.exec) {pc pc' : Nat} {Ls : Array Slot} {rest : List Value} {k : Nat} {v : Int64} (Ls' : Array Slot) (hd : decode c.code pc = .ok (.lstore k, 2)) (hl : storeLocals Ls k (.long v) = some Ls') (hp : pc + 2 = pc') (h : own_Ends p e below Φ (T.setTop (mkF m pc' Ls' (rest)))) : own_Ends p e below Φ (T.setTop (mkF m pc Ls (.long v :: rest))) := by
  subst hp; exact own_via (fun _ k => XS.lstore X.here hx (g := mkF m pc Ls (.long v :: rest)) rfl hd rfl hl k) h
theorem own_astore (X : Stand p l e R s m args below meth c T locs cells slots) (hx : p.tables.exec = Jvm.exec) {pc pc' : Nat} {Ls : Array Slot} {rest : List Value} {k : Nat} {v : Value} (Ls' : Array Slot) (hd : decode c.code pc = .ok (.astore k, 2)) (hv : v.isRef = true) (hl : storeLocals Ls k v = some Ls') (hp : pc + 2 = pc') (h : own_Ends p e below Φ (T.setTop (mkF m pc' Ls' (rest)))) : own_Ends p e below Φ (T.setTop (mkF m pc Ls (v :: rest))) := by
  subst hp; exact own_via (fun _ k => XS.astore X.here hx (g := mkF m pc Ls (v :: rest)) rfl hd rfl hv hl k) h
theorem own_iconst (X : Stand p l e R s m args below meth c T locs cells slots) (hx : p.tables.exec = Jvm.exec) {pc pc' : Nat} {Ls : Array Slot} {rest : List Value} {i : Int} (v : Int32) (hd : decode c.code pc = .ok (.iconst i, 1)) (hv : Int32.ofInt i = v) (hp : pc + 1 = pc') (h : own_Ends p e below Φ (T.setTop (mkF m pc' Ls (.int v :: rest)))) : own_Ends p e below Φ (T.setTop (mkF m pc Ls rest)) := by
  subst hp hv; exact own_via (fun _ k => XS.iconst X.here hx (g := mkF m pc Ls rest) rfl hd k) h
theorem own_bipush (X : Stand p l e R s m args below meth c T locs cells slots) (hx : p.tables.exec = Jvm.exec) {pc pc' : Nat} {Ls : Array Slot} {rest : List Value} {i : Int} (v : Int32) (hd : decode c.code pc = .ok (.bipush i, 2)) (hv : (Int8.ofInt i).toInt32 = v) (hp : pc + 2 = pc') (h : own_Ends p e below Φ (T.setTop (mkF m pc' Ls (.int v :: rest)))) : own_Ends p e below Φ (T.setTop (mkF m pc Ls rest)) := by
  subst hp hv; exact own_via (fun _ k => XS.bipush X.here hx (g := mkF m pc Ls rest) rfl hd k) h
theorem own_sipush (X : Stand p l e R s m args below meth c T locs cells slots) (hx : p.tables.exec = Jvm.exec) {pc pc' : Nat} {Ls : Array Slot} {rest : List Value} {i : Int} (v : Int32) (hd : decode c.code pc = .ok (.sipush i, 3)) (hv : (Int16.ofInt i).toInt32 = v) (hp : pc + 3 = pc') (h : own_Ends p e below Φ (T.setTop (mkF m pc' Ls (.int v :: rest)))) : own_Ends p e below Φ (T.setTop (mkF m pc Ls rest)) := by
  subst hp hv; exact own_via (fun _ k => XS.sipush X.here hx (g := mkF m pc Ls rest) rfl hd k) h
theorem own_lconst (X : Stand p l e R s m args below meth c T locs cells slots) (hx : p.tables.exec = Jvm.exec) {pc pc' : Nat} {Ls : Array Slot} {rest : List Value} {i : Fin 2} (v : Int64) (hd : decode c.code pc = .ok (.lconst i, 1)) (hv : Int64.ofNat i = v) (hp : pc + 1 = pc') (h : own_Ends p e below Φ (T.setTop (mkF m pc' Ls (.long v :: rest)))) : own_Ends p e below Φ (T.setTop (mkF m pc Ls rest)) := by
  subst hp hv; exact own_via (fun _ k => XS.lconst X.here hx (g := mkF m pc Ls rest) rfl hd k) h
theorem own_aconst_null (X : Stand p l e R s m args below meth c T locs cells slots) (hx : p.tables.exec = Jvm.exec) {pc pc' : Nat} {Ls : Array Slot} {rest : List Value}  (hd : decode c.code pc = .ok (.aconst_null, 1))  (hp : pc + 1 = pc') (h : own_Ends p e below Φ (T.setTop (mkF m pc' Ls (.null :: rest)))) : own_Ends p e below Φ (T.setTop (mkF m pc Ls (rest))) := by
  subst hp; exact own_via (fun _ k => XS.aconstNull X.here hx (g := mkF m pc Ls (rest)) rfl hd  k) h
theorem own_iadd (X : Stand p l e R s m args below meth c T locs cells slots) (hx : p.tables.exec = Jvm.exec) {pc pc' : Nat} {Ls : Array Slot} {rest : List Value} {x y : Int32} (hd : decode c.code pc = .ok (.iadd, 1))  (hp : pc + 1 = pc') (h : own_Ends p e below Φ (T.setTop (mkF m pc' Ls (.int (x + y) :: rest)))) : own_Ends p e below Φ (T.setTop (mkF m pc Ls (.int y :: .int x :: rest))) := by
  subst hp; exact own_via (fun _ k => XS.iadd X.here hx (g := mkF m pc Ls (.int y :: .int x :: rest)) rfl hd rfl k) h
theorem own_isub (X : Stand p l e R s m args below meth c T locs cells slots) (hx : p.tables.exec = Jvm.exec) {pc pc' : Nat} {Ls : Array Slot} {rest : List Value} {x y : Int32} (hd : decode c.code pc = .ok (.isub, 1))  (hp : pc + 1 = pc') (h : own_Ends p e below Φ (T.setTop (mkF m pc' Ls (.int (x - y) :: rest)))) : own_Ends p e below Φ (T.setTop (mkF m pc Ls (.int y :: .int x :: rest))) := by
  subst hp; exact own_via (fun _ k => XS.isub X.here hx (g := mkF m pc Ls (.int y :: .int x :: rest)) rfl hd rfl k) h
theorem own_imul (X : Stand p l e R s m args below meth c T locs cells slots) (hx : p.tables.exec = Jvm.exec) {pc pc' : Nat} {Ls : Array Slot} {rest : List Value} {x y : Int32} (hd : decode c.code pc = .ok (.imul, 1))  (hp : pc + 1 = pc') (h : own_Ends p e below Φ (T.setTop (mkF m pc' Ls (.int (x * y) :: rest)))) : own_Ends p e below Φ (T.setTop (mkF m pc Ls (.int y :: .int x :: rest))) := by
  subst hp; exact own_via (fun _ k => XS.imul X.here hx (g := mkF m pc Ls (.int y :: .int x :: rest)) rfl hd rfl k) h
theorem own_iand (X : Stand p l e R s m args below meth c T locs cells slots) (hx : p.tables.exec = Jvm.exec) {pc pc' : Nat} {Ls : Array Slot} {rest : List Value} {x y : Int32} (hd : decode c.code pc = .ok (.iand, 1))  (hp : pc + 1 = pc') (h : own_Ends p e below Φ (T.setTop (mkF m pc' Ls (.int (x &&& y) :: rest)))) : own_Ends p e below Φ (T.setTop (mkF m pc Ls (.int y :: .int x :: rest))) := by
  subst hp; exact own_via (fun _ k => XS.iand X.here hx (g := mkF m pc Ls (.int y :: .int x :: rest)) rfl hd rfl k) h
theorem own_ior (X : Stand p l e R s m args below meth c T locs cells slots) (hx : p.tables.exec = Jvm.exec) {pc pc' : Nat} {Ls : Array Slot} {rest : List Value} {x y : Int32} (hd : decode c.code pc = .ok (.ior, 1))  (hp : pc + 1 = pc') (h : own_Ends p e below Φ (T.setTop (mkF m pc' Ls (.int (x ||| y) :: rest)))) : own_Ends p e below Φ (T.setTop (mkF m pc Ls (.int y :: .int x :: rest))) := by
  subst hp; exact own_via (fun _ k => XS.ior X.here hx (g := mkF m pc Ls (.int y :: .int x :: rest)) rfl hd rfl k) h
theorem own_ixor (X : Stand p l e R s m args below meth c T locs cells slots) (hx : p.tables.exec = Jvm.exec) {pc pc' : Nat} {Ls : Array Slot} {rest : List Value} {x y : Int32} (hd : decode c.code pc = .ok (.ixor, 1))  (hp : pc + 1 = pc') (h : own_Ends p e below Φ (T.setTop (mkF m pc' Ls (.int (x ^^^ y) :: rest)))) : own_Ends p e below Φ (T.setTop (mkF m pc Ls (.int y :: .int x :: rest))) := by
  subst hp; exact own_via (fun _ k => XS.ixor X.here hx (g := mkF m pc Ls (.int y :: .int x :: rest)) rfl hd rfl k) h
theorem own_ishl (X : Stand p l e R s m args below meth c T locs cells slots) (hx : p.tables.exec = Jvm.exec) {pc pc' : Nat} {Ls : Array Slot} {rest : List Value} {x y : Int32} (hd : decode c.code pc = .ok (.ishl, 1))  (hp : pc + 1 = pc') (h : own_Ends p e below Φ (T.setTop (mkF m pc' Ls (.int (x <<< (y &&& 31)) :: rest)))) : own_Ends p e below Φ (T.setTop (mkF m pc Ls (.int y :: .int x :: rest))) := by
  subst hp; exact own_via (fun _ k => XS.ishl X.here hx (g := mkF m pc Ls (.int y :: .int x :: rest)) rfl hd rfl k) h
theorem own_ishr (X : Stand p l e R s m args below meth c T locs cells slots) (hx : p.tables.exec = Jvm.exec) {pc pc' : Nat} {Ls : Array Slot} {rest : List Value} {x y : Int32} (hd : decode c.code pc = .ok (.ishr, 1))  (hp : pc + 1 = pc') (h : own_Ends p e below Φ (T.setTop (mkF m pc' Ls (.int (x >>> (y &&& 31)) :: rest)))) : own_Ends p e below Φ (T.setTop (mkF m pc Ls (.int y :: .int x :: rest))) := by
  subst hp; exact own_via (fun _ k => XS.ishr X.here hx (g := mkF m pc Ls (.int y :: .int x :: rest)) rfl hd rfl k) h
theorem own_iushr (X : Stand p l e R s m args below meth c T locs cells slots) (hx : p.tables.exec = Jvm.exec) {pc pc' : Nat} {Ls : Array Slot} {rest : List Value} {x y : Int32} (hd : decode c.code pc = .ok (.iushr, 1))  (hp : pc + 1 = pc') (h : own_Ends p e below Φ (T.setTop (mkF m pc' Ls (.int (own_ushr x y) :: rest)))) : own_Ends p e below Φ (T.setTop (mkF m pc Ls (.int y :: .int x :: rest))) := by
  subst hp; exact own_via (fun _ k => XS.iushr X.here hx (g := mkF m pc Ls (.int y :: .int x :: rest)) rfl hd rfl k) h
theorem own_ladd (X : Stand p l e R s m args below meth c T locs cells slots) (hx : p.tables.exec = Jvm.exec) {pc pc' : Nat} {Ls : Array Slot} {rest : List Value} {x y : Int64} (hd : decode c.code pc = .ok (.ladd, 1))  (hp : pc + 1 = pc') (h : own_Ends p e below Φ (T.setTop (mkF m pc' Ls (.long (x + y) :: rest)))) : own_Ends p e below Φ (T.setTop (mkF m pc Ls (.long y :: .long x :: rest))) := by
  subst hp; exact own_via (fun _ k => XS.ladd X.here hx (g := mkF m pc Ls (.long y :: .long x :: rest)) rfl hd rfl k) h
theorem own_lsub (X : Stand p l e R s m args below meth c T locs cells slots) (hx : p.tables.exec = Jvm.exec) {pc pc' : Nat} {Ls : Array Slot} {rest : List Value} {x y : Int64} (hd : decode c.code pc = .ok (.lsub, 1))  (hp : pc + 1 = pc') (h : own_Ends p e below Φ (T.setTop (mkF m pc' Ls (.long (x - y) :: rest)))) : own_Ends p e below Φ (T.setTop (mkF m pc Ls (.long y :: .long x :: rest))) := by
  subst hp; exact own_via (fun _ k => XS.lsub X.here hx (g := mkF m pc Ls (.long y :: .long x :: rest)) rfl hd rfl k) h
theorem own_lmul (X : Stand p l e R s m args below meth c T locs cells slots) (hx : p.tables.exec = Jvm.exec) {pc pc' : Nat} {Ls : Array Slot} {rest : List Value} {x y : Int64} (hd : decode c.code pc = .ok (.lmul, 1))  (hp : pc + 1 = pc') (h : own_Ends p e below Φ (T.setTop (mkF m pc' Ls (.long (x * y) :: rest)))) : own_Ends p e below Φ (T.setTop (mkF m pc Ls (.long y :: .long x :: rest))) := by
  subst hp; exact own_via (fun _ k => XS.lmul X.here hx (g := mkF m pc Ls (.long y :: .long x :: rest)) rfl hd rfl k) h
theorem own_land (X : Stand p l e R s m args below meth c T locs cells slots) (hx : p.tables.exec = Jvm.exec) {pc pc' : Nat} {Ls : Array Slot} {rest : List Value} {x y : Int64} (hd : decode c.code pc = .ok (.land, 1))  (hp : pc + 1 = pc') (h : own_Ends p e below Φ (T.setTop (mkF m pc' Ls (.long (x &&& y) :: rest)))) : own_Ends p e below Φ (T.setTop (mkF m pc Ls (.long y :: .long x :: rest))) := by
  subst hp; exact own_via (fun _ k => XS.land X.here hx (g := mkF m pc Ls (.long y :: .long x :: rest)) rfl hd rfl k) h
theorem own_lor (X : Stand p l e R s m args below meth c T locs cells slots) (hx : p.tables.exec = Jvm.exec) {pc pc' : Nat} {Ls : Array Slot} {rest : List Value} {x y : Int64} (hd : decode c.code pc = .ok (.lor, 1))  (hp : pc + 1 = pc') (h : own_Ends p e below Φ (T.setTop (mkF m pc' Ls (.long (x ||| y) :: rest)))) : own_Ends p e below Φ (T.setTop (mkF m pc Ls (.long y :: .long x :: rest))) := by
  subst hp; exact own_via (fun _ k => XS.lor X.here hx (g := mkF m pc Ls (.long y :: .long x :: rest)) rfl hd rfl k) h
theorem own_lxor (X : Stand p l e R s m args below meth c T locs cells slots) (hx : p.tables.exec = Jvm.exec) {pc pc' : Nat} {Ls : Array Slot} {rest : List Value} {x y : Int64} (hd : decode c.code pc = .ok (.lxor, 1))  (hp : pc + 1 = pc') (h : own_Ends p e below Φ (T.setTop (mkF m pc' Ls (.long (x ^^^ y) :: rest)))) : own_Ends p e below Φ (T.setTop (mkF m pc Ls (.long y :: .long x :: rest))) := by
  subst hp; exact own_via (fun _ k => XS.lxor X.here hx (g := mkF m pc Ls (.long y :: .long x :: rest)) rfl hd rfl k) h
theorem own_lshl (X : Stand p l e R s m args below meth c T locs cells slots) (hx : p.tables.exec = Jvm.exec) {pc pc' : Nat} {Ls : Array Slot} {rest : List Value} {x : Int64} {y : Int32} (hd : decode c.code pc = .ok (.lshl, 1))  (hp : pc + 1 = pc') (h : own_Ends p e below Φ (T.setTop (mkF m pc' Ls (.long (x <<< (y &&& 0x3f).toInt64) :: rest)))) : own_Ends p e below Φ (T.setTop (mkF m pc Ls (.int y :: .long x :: rest))) := by
  subst hp; exact own_via (fun _ k => XS.lshl X.here hx (g := mkF m pc Ls (.int y :: .long x :: rest)) rfl hd rfl k) h
theorem own_lshr (X : Stand p l e R s m args below meth c T locs cells slots) (hx : p.tables.exec = Jvm.exec) {pc pc' : Nat} {Ls : Array Slot} {rest : List Value} {x : Int64} {y : Int32} (hd : decode c.code pc = .ok (.lshr, 1))  (hp : pc + 1 = pc') (h : own_Ends p e below Φ (T.setTop (mkF m pc' Ls (.long (x >>> (y &&& 0x3f).toInt64) :: rest)))) : own_Ends p e below Φ (T.setTop (mkF m pc Ls (.int y :: .long x :: rest))) := by
  subst hp; exact own_via (fun _ k => XS.lshr X.here hx (g := mkF m pc Ls (.int y :: .long x :: rest)) rfl hd rfl k) h
theorem own_lushr (X : Stand p l e R s m args below meth c T locs cells slots) (hx : p.tables.exec = Jvm.exec) {pc pc' : Nat} {Ls : Array Slot} {rest : List Value} {x : Int64} {y : Int32} (hd : decode c.code pc = .ok (.lushr, 1))  (hp : pc + 1 = pc') (h : own_Ends p e below Φ (T.setTop (mkF m pc' Ls (.long (own_ushrL x y) :: rest)))) : own_Ends p e below Φ (T.setTop (mkF m pc Ls (.int y :: .long x :: rest))) := by
  subst hp; exact own_via (fun _ k => XS.lushr X.here hx (g := mkF m pc Ls (.int y :: .long x :: rest)) rfl hd rfl k) h
theorem own_idiv (X : Stand p l e R s m args below meth c T locs cells slots) (hx : p.tables.exec = Jvm.exec) {pc pc' : Nat} {Ls : Array Slot} {rest : List Value} {x y : Int32} (hd : decode c.code pc = .ok (.idiv, 1)) (hy : y ≠ 0) (hp : pc + 1 = pc') (h : own_Ends p e below Φ (T.setTop (mkF m pc' Ls (.int (x / y) :: rest)))) : own_Ends p e below Φ (T.setTop (mkF m pc Ls (.int y :: .int x :: rest))) := by
  subst hp; exact own_via (fun _ k => XS.idiv X.here hx (g := mkF m pc Ls (.int y :: .int x :: rest)) rfl hd rfl hy k) h
theorem own_irem (X : Stand p l e R s m args below meth c T locs cells slots) (hx : p.tables.exec = Jvm.exec) {pc pc' : Nat} {Ls : Array Slot} {rest : List Value} {x y : Int32} (hd : decode c.code pc = .ok (.irem, 1)) (hy : y ≠ 0) (hp : pc + 1 = pc') (h : own_Ends p e below Φ (T.setTop (mkF m pc' Ls (.int (x % y) :: rest)))) : own_Ends p e below Φ (T.setTop (mkF m pc Ls (.int y :: .int x :: rest))) := by
  subst hp; exact own_via (fun _ k => iremM X hx (g := mkF m pc Ls (.int y :: .int x :: rest)) rfl hd rfl hy k) h
theorem own_ineg (X : Stand p l e R s m args below meth c T locs cells slots) (hx : p.tables.exec = Jvm.exec) {pc pc' : Nat} {Ls : Array Slot} {rest : List Value} {x : Int32} (hd : decode c.code pc = .ok (.ineg, 1))  (hp : pc + 1 = pc') (h : own_Ends p e below Φ (T.setTop (mkF m pc' Ls (.int (-x) :: rest)))) : own_Ends p e below Φ (T.setTop (mkF m pc Ls (.int x :: rest))) := by
  subst hp; exact own_via (fun _ k => XS.ineg X.here hx (g := mkF m pc Ls (.int x :: rest)) rfl hd rfl k) h
theorem own_lneg (X : Stand p l e R s m args below meth c T locs cells slots) (hx : p.tables.exec = Jvm.exec) {pc pc' : Nat} {Ls : Array Slot} {rest : List Value} {x : Int64} (hd : decode c.code pc = .ok (.lneg, 1))  (hp : pc + 1 = pc') (h : own_Ends p e below Φ (T.setTop (mkF m pc' Ls (.long (-x) :: rest)))) : own_Ends p e below Φ (T.setTop (mkF m pc Ls (.long x :: rest))) := by
  subst hp; exact own_via (fun _ k => XS.lneg X.here hx (g := mkF m pc Ls (.long x :: rest)) rfl hd rfl k) h
theorem own_i2l (X : Stand p l e R s m args below meth c T locs cells slots) (hx : p.tables.exec = Jvm.exec) {pc pc' : Nat} {Ls : Array Slot} {rest : List Value} {x : Int32} (hd : decode c.code pc = .ok (.i2l, 1))  (hp : pc + 1 = pc') (h : own_Ends p e below Φ (T.setTop (mkF m pc' Ls (.long (x.toInt64) :: rest)))) : own_Ends p e below Φ (T.setTop (mkF m pc Ls (.int x :: rest))) := by
  subst hp; exact own_via (fun _ k => XS.i2l X.here hx (g := mkF m pc Ls (.int x :: rest)) rfl hd rfl k) h
theorem own_l2i (X : Stand p l e R s m args below meth c T locs cells slots) (hx : p.tables.exec = Jvm.exec) {pc pc' : Nat} {Ls : Array Slot} {rest : List Value} {x : Int64} (hd : decode c.code pc = .ok (.l2i, 1))  (hp : pc + 1 = pc') (h : own_Ends p e below Φ (T.setTop (mkF m pc' Ls (.int (x.toInt32) :: rest)))) : own_Ends p e below Φ (T.setTop (mkF m pc Ls (.long x :: rest))) := by
  subst hp; exact own_via (fun _ k => XS.l2i X.here hx (g := mkF m pc Ls (.long x :: rest)) rfl hd rfl k) h
theorem own_i2b (X : Stand p l e R s m args below meth c T locs cells slots) (hx : p.tables.exec = Jvm.exec) {pc pc' : Nat} {Ls : Array Slot} {rest : List Value} {x : Int32} (hd : decode c.code pc = .ok (.i2b, 1))  (hp : pc + 1 = pc') (h : own_Ends p e below Φ (T.setTop (mkF m pc' Ls (.int (x.toInt8.toInt32) :: rest)))) : own_Ends p e below Φ (T.setTop (mkF m pc Ls (.int x :: rest))) := by
  subst hp; exact own_via (fun _ k => XS.i2b X.here hx (g := mkF m pc Ls (.int x :: rest)) rfl hd rfl k) h
theorem own_i2c (X : Stand p l e R s m args below meth c T locs cells slots) (hx : p.tables.exec = Jvm.exec) {pc pc' : Nat} {Ls : Array Slot} {rest : List Value} {x : Int32} (hd : decode c.code pc = .ok (.i2c, 1))  (hp : pc + 1 = pc') (h : own_Ends p e below Φ (T.setTop (mkF m pc' Ls (.int (x.toUInt32.toUInt16.toUInt32.toInt32) :: rest)))) : own_Ends p e below Φ (T.setTop (mkF m pc Ls (.int x :: rest))) := by
  subst hp; exact own_via (fun _ k => XS.i2c X.here hx (g := mkF m pc Ls (.int x :: rest)) rfl hd rfl k) h
theorem own_i2s (X : Stand p l e R s m args below meth c T locs cells slots) (hx : p.tables.exec = Jvm.exec) {pc pc' : Nat} {Ls : Array Slot} {rest : List Value} {x : Int32} (hd : decode c.code pc = .ok (.i2s, 1))  (hp : pc + 1 = pc') (h : own_Ends p e below Φ (T.setTop (mkF m pc' Ls (.int (x.toInt16.toInt32) :: rest)))) : own_Ends p e below Φ (T.setTop (mkF m pc Ls (.int x :: rest))) := by
  subst hp; exact own_via (fun _ k => XS.i2s X.here hx (g := mkF m pc Ls (.int x :: rest)) rfl hd rfl k) h
theorem own_lcmp (X : Stand p l e R s m args below meth c T locs cells slots) (hx : p.tables.exec = Jvm.exec) {pc pc' : Nat} {Ls : Array Slot} {rest : List Value} {x y : Int64} (hd : decode c.code pc = .ok (.lcmp, 1))  (hp : pc + 1 = pc') (h : own_Ends p e below Φ (T.setTop (mkF m pc' Ls (.int (lcmpW x y) :: rest)))) : own_Ends p e below Φ (T.setTop (mkF m pc Ls (.long y :: .long x :: rest))) := by
  subst hp; exact own_via (fun _ k => XS.lcmp X.here hx (g := mkF m pc Ls (.long y :: .long x :: rest)) rfl hd rfl k) h
theorem own_dup (X : Stand p l e R s m args below meth c T locs cells slots) (hx : p.tables.exec = Jvm.exec) {pc pc' : Nat} {Ls : Array Slot} {rest : List Value} {x : Value} (hd : decode c.code pc = .ok (.dup, 1)) (hc : x.category = 1) (hp : pc + 1 = pc') (h : own_Ends p e below Φ (T.setTop (mkF m pc' Ls (x :: x :: rest)))) : own_Ends p e below Φ (T.setTop (mkF m pc Ls (x :: rest))) := by
  subst hp; exact own_via (fun _ k => XS.dup X.here hx (g := mkF m pc Ls (x :: rest)) rfl hd rfl hc k) h
theorem own_pop (X : Stand p l e R s m args below meth c T locs cells slots) (hx : p.tables.exec = Jvm.exec) {pc pc' : Nat} {Ls : Array Slot} {rest : List Value} {x : Value} (hd : decode c.code pc = .ok (.pop, 1)) (hc : x.category = 1) (hp : pc + 1 = pc') (h : own_Ends p e below Φ (T.setTop (mkF m pc' Ls (rest)))) : own_Ends p e below Φ (T.setTop (mkF m pc Ls (x :: rest))) := by
  subst hp; exact own_via (fun _ k => XS.pop X.here hx (g := mkF m pc Ls (x :: rest)) rfl hd rfl hc k) h
theorem own_dup_x1 (X : Stand p l e R s m args below meth c T locs cells slots) (hx : p.tables.exec = Jvm.exec) {pc pc' : Nat} {Ls : Array Slot} {rest : List Value} {x y : Value} (hd : decode c.code pc = .ok (.dup_x1, 1)) (hc : x.category = 1) (hc' : y.category = 1) (hp : pc + 1 = pc') (h : own_Ends p e below Φ (T.setTop (mkF m pc' Ls (x :: y :: x :: rest)))) : own_Ends p e below Φ (T.setTop (mkF m pc Ls (x :: y :: rest))) := by
  subst hp; exact own_via (fun _ k => XS.dupX1 X.here hx (g := mkF m pc Ls (x :: y :: rest)) rfl hd rfl hc hc' k) h
theorem own_iinc (X : Stand p l e R s m args below meth c T locs cells slots) (hx : p.tables.exec = Jvm.exec) {pc pc' : Nat} {Ls : Array Slot} {rest : List Value} {k : Nat} {cst : Int} {x : Int32} (Ls' : Array Slot) (hd : decode c.code pc = .ok (.iinc k cst, 3)) (hl : Ls[k]? = some (.val (.int x))) (hl' : storeLocals Ls k (.int (x + Int32.ofInt cst)) = some Ls') (hp : pc + 3 = pc') (h : own_Ends p e below Φ (T.setTop (mkF m pc' Ls' rest))) : own_Ends p e below Φ (T.setTop (mkF m pc Ls rest)) := by
  subst hp; exact own_via (fun _ k => XS.iinc X.here hx (g := mkF m pc Ls rest) rfl hd hl hl' k) h
theorem own_goto (X : Stand p l e R s m args below meth c T locs cells slots) (hx : p.tables.exec = Jvm.exec) {pc pc' : Nat} {Ls : Array Slot} {rest : List Value} {o : Int} (hd : decode c.code pc = .ok (.goto o, 3)) (ho : 0 ≤ (pc : Int) + o) (hp : ((pc : Int) + o).toNat = pc') (h : own_Ends p e below Φ (T.setTop (mkF m pc' Ls rest))) : own_Ends p e below Φ (T.setTop (mkF m pc Ls rest)) := own_via (fun _ k => XS.goto X.here hx (g := mkF m pc Ls rest) rfl (pc0 := pc) (pc' := pc') rfl hd ho hp k) h
theorem own_icmp_eq (X : Stand p l e R s m args below meth c T locs cells slots) (hx : p.tables.exec = Jvm.exec) {pc pcT pcF : Nat} {Ls : Array Slot} {rest : List Value} {x y : Int32} {o : Int} (hd : decode c.code pc = .ok (.if_icmp .eq o, 3)) (ho : 0 ≤ (pc : Int) + o) (hT : ((pc : Int) + o).toNat = pcT) (hF : pc + 3 = pcF) (kT : x = y → own_Ends p e below Φ (T.setTop (mkF m pcT Ls rest))) (kF : ¬ x = y → own_Ends p e below Φ (T.setTop (mkF m pcF Ls rest))) : own_Ends p e below Φ (T.setTop (mkF m pc Ls (.int y :: .int x :: rest))) := by
  subst hF; by_cases q : x = y
  · exact own_via (fun _ k => XS.icmpYes X.here hx (g := mkF m pc Ls (.int y :: .int x :: rest)) rfl (pc0 := pc) (pc' := pcT) rfl hd rfl (teq q).1 ho hT k) (kT q)
  · exact own_via (fun _ k => XS.icmpNo X.here hx (g := mkF m pc Ls (.int y :: .int x :: rest)) rfl hd rfl (feq q).1 k) (kF q)
theorem own_if_eq (X : Stand p l e R s m args below meth c T locs cells slots) (hx : p.tables.exec = Jvm.exec) {pc pcT pcF : Nat} {Ls : Array Slot} {rest : List Value} {x : Int32} {o : Int} (hd : decode c.code pc = .ok (.ifCond .eq o, 3)) (ho : 0 ≤ (pc : Int) + o) (hT : ((pc : Int) + o).toNat = pcT) (hF : pc + 3 = pcF) (kT : x = (0 : Int32) → own_Ends p e below Φ (T.setTop (mkF m pcT Ls rest))) (kF : ¬ x = (0 : Int32) → own_Ends p e below Φ (T.setTop (mkF m pcF Ls rest))) : own_Ends p e below Φ (T.setTop (mkF m pc Ls (.int x :: rest))) := by
  subst hF; by_cases q : x = (0 : Int32)
  · exact own_via (fun _ k => XS.ifYes X.here hx (g := mkF m pc Ls (.int x :: rest)) rfl (pc0 := pc) (pc' := pcT) rfl hd rfl ((if0 _ _).trans (teq q).1) ho hT k) (kT q)
  · exact own_via (fun _ k => XS.ifNo X.here hx (g := mkF m pc Ls (.int x :: rest)) rfl hd rfl ((if0 _ _).trans (feq q).1) k) (kF q)
theorem own_icmp_ne (X : Stand p l e R s m args below meth c T locs cells slots) (hx : p.tables.exec = Jvm.exec) {pc pcT pcF : Nat} {Ls : Array Slot} {rest : List Value} {x y : Int32} {o : Int} (hd : decode c.code pc = .ok (.if_icmp .ne o, 3)) (ho : 0 ≤ (pc : Int) + o) (hT : ((pc : Int) + o).toNat = pcT) (hF : pc + 3 = pcF) (kT : ¬ x = y → own_Ends p e below Φ (T.setTop (mkF m pcT Ls rest))) (kF : x = y → own_Ends p e below Φ (T.setTop (mkF m pcF Ls rest))) : own_Ends p e below Φ (T.setTop (mkF m pc Ls (.int y :: .int x :: rest))) := by
  subst hF; by_cases q : x = y
  · exact own_via (fun _ k => XS.icmpNo X.here hx (g := mkF m pc Ls (.int y :: .int x :: rest)) rfl hd rfl (teq q).2 k) (kF q)
  · exact own_via (fun _ k => XS.icmpYes X.here hx (g := mkF m pc Ls (.int y :: .int x :: rest)) rfl (pc0 := pc) (pc' := pcT) rfl hd rfl (feq q).2 ho hT k) (kT q)
theorem own_if_ne (X : Stand p l e R s m args below meth c T locs cells slots) (hx : p.tables.exec = Jvm.exec) {pc pcT pcF : Nat} {Ls : Array Slot} {rest : List Value} {x : Int32} {o : Int} (hd : decode c.code pc = .ok (.ifCond .ne o, 3)) (ho : 0 ≤ (pc : Int) + o) (hT : ((pc : Int) + o).toNat = pcT) (hF : pc + 3 = pcF) (kT : ¬ x = (0 : Int32) → own_Ends p e below Φ (T.setTop (mkF m pcT Ls rest))) (kF : x = (0 : Int32) → own_Ends p e below Φ (T.setTop (mkF m pcF Ls rest))) : own_Ends p e below Φ (T.setTop (mkF m pc Ls (.int x :: rest))) := by
  subst hF; by_cases q : x = (0 : Int32)
  · exact own_via (fun _ k => XS.ifNo X.here hx (g := mkF m pc Ls (.int x :: rest)) rfl hd rfl ((if0 _ _).trans (teq q).2) k) (kF q)
  · exact own_via (fun _ k => XS.ifYes X.here hx (g := mkF m pc Ls (.int x :: rest)) rfl (pc0 := pc) (pc' := pcT) rfl hd rfl ((if0 _ _).trans (feq q).2) ho hT k) (kT q)
theorem own_icmp_lt (X : Stand p l e R s m args below meth c T locs cells slots) (hx : p.tables.exec = Jvm.exec) {pc pcT pcF : Nat} {Ls : Array Slot} {rest : List Value} {x y : Int32} {o : Int} (hd : decode c.code pc = .ok (.if_icmp .lt o, 3)) (ho : 0 ≤ (pc : Int) + o) (hT : ((pc : Int) + o).toNat = pcT) (hF : pc + 3 = pcF) (kT : x < y → own_Ends p e below Φ (T.setTop (mkF m pcT Ls rest))) (kF : ¬ x < y → own_Ends p e below Φ (T.setTop (mkF m pcF Ls rest))) : own_Ends p e below Φ (T.setTop (mkF m pc Ls (.int y :: .int x :: rest))) := by
  subst hF; by_cases q : x < y
  · exact own_via (fun _ k => XS.icmpYes X.here hx (g := mkF m pc Ls (.int y :: .int x :: rest)) rfl (pc0 := pc) (pc' := pcT) rfl hd rfl (tlt q).1 ho hT k) (kT q)
  · exact own_via (fun _ k => XS.icmpNo X.here hx (g := mkF m pc Ls (.int y :: .int x :: rest)) rfl hd rfl (flt q).1 k) (kF q)
theorem own_if_lt (X : Stand p l e R s m args below meth c T locs cells slots) (hx : p.tables.exec = Jvm.exec) {pc pcT pcF : Nat} {Ls : Array Slot} {rest : List Value} {x : Int32} {o : Int} (hd : decode c.code pc = .ok (.ifCond .lt o, 3)) (ho : 0 ≤ (pc : Int) + o) (hT : ((pc : Int) + o).toNat = pcT) (hF : pc + 3 = pcF) (kT : x < (0 : Int32) → own_Ends p e below Φ (T.setTop (mkF m pcT Ls rest))) (kF : ¬ x < (0 : Int32) → own_Ends p e below Φ (T.setTop (mkF m pcF Ls rest))) : own_Ends p e below Φ (T.setTop (mkF m pc Ls (.int x :: rest))) := by
  subst hF; by_cases q : x < (0 : Int32)
  · exact own_via (fun _ k => XS.ifYes X.here hx (g := mkF m pc Ls (.int x :: rest)) rfl (pc0 := pc) (pc' := pcT) rfl hd rfl ((if0 _ _).trans (tlt q).1) ho hT k) (kT q)
  · exact own_via (fun _ k => XS.ifNo X.here hx (g := mkF m pc Ls (.int x :: rest)) rfl hd rfl ((if0 _ _).trans (flt q).1) k) (kF q)
theorem own_icmp_ge (X : Stand p l e R s m args below meth c T locs cells slots) (hx : p.tables.exec = Jvm.exec) {pc pcT pcF : Nat} {Ls : Array Slot} {rest : List Value} {x y : Int32} {o : Int} (hd : decode c.code pc = .ok (.if_icmp .ge o, 3)) (ho : 0 ≤ (pc : Int) + o) (hT : ((pc : Int) + o).toNat = pcT) (hF : pc + 3 = pcF) (kT : ¬ x < y → own_Ends p e below Φ (T.setTop (mkF m pcT Ls rest))) (kF : x < y → own_Ends p e below Φ (T.setTop (mkF m pcF Ls rest))) : own_Ends p e below Φ (T.setTop (mkF m pc Ls (.int y :: .int x :: rest))) := by
  subst hF; by_cases q : x < y
  · exact own_via (fun _ k => XS.icmpNo X.here hx (g := mkF m pc Ls (.int y :: .int x :: rest)) rfl hd rfl (tlt q).2.1 k) (kF q)
  · exact own_via (fun _ k => XS.icmpYes X.here hx (g := mkF m pc Ls (.int y :: .int x :: rest)) rfl (pc0 := pc) (pc' := pcT) rfl hd rfl (flt q).2.1 ho hT k) (kT q)
theorem own_if_ge (X : Stand p l e R s m args below meth c T locs cells slots) (hx : p.tables.exec = Jvm.exec) {pc pcT pcF : Nat} {Ls : Array Slot} {rest : List Value} {x : Int32} {o : Int} (hd : decode c.code pc = .ok (.ifCond .ge o, 3)) (ho : 0 ≤ (pc : Int) + o) (hT : ((pc : Int) + o).toNat = pcT) (hF : pc + 3 = pcF) (kT : ¬ x < (0 : Int32) → own_Ends p e below Φ (T.setTop (mkF m pcT Ls rest))) (kF : x < (0 : Int32) → own_Ends p e below Φ (T.setTop (mkF m pcF Ls rest))) : own_Ends p e below Φ (T.setTop (mkF m pc Ls (.int x :: rest))) := by
  subst hF; by_cases q : x < (0 : Int32)
  · exact own_via (fun _ k => XS.ifNo X.here hx (g := mkF m pc Ls (.int x :: rest)) rfl hd rfl ((if0 _ _).trans (tlt q).2.1) k) (kF q)
  · exact own_via (fun _ k => XS.ifYes X.here hx (g := mkF m pc Ls (.int x :: rest)) rfl (pc0 := pc) (pc' := pcT) rfl hd rfl ((if0 _ _).trans (flt q).2.1) ho hT k) (kT q)
theorem own_icmp_gt (X : Stand p l e R s m args below meth c T locs cells slots) (hx : p.tables.exec = Jvm.exec) {pc pcT pcF : Nat} {Ls : Array Slot} {rest : List Value} {x y : Int32} {o : Int} (hd : decode c.code pc = .ok (.if_icmp .gt o, 3)) (ho : 0 ≤ (pc : Int) + o) (hT : ((pc : Int) + o).toNat = pcT) (hF : pc + 3 = pcF) (kT : y < x → own_Ends p e below Φ (T.setTop (mkF m pcT Ls rest))) (kF : ¬ y < x → own_Ends p e below Φ (T.setTop (mkF m pcF Ls rest))) : own_Ends p e below Φ (T.setTop (mkF m pc Ls (.int y :: .int x :: rest))) := by
  subst hF; by_cases q : y < x
  · exact own_via (fun _ k => XS.icmpYes X.here hx (g := mkF m pc Ls (.int y :: .int x :: rest)) rfl (pc0 := pc) (pc' := pcT) rfl hd rfl (tlt q).2.2.1 ho hT k) (kT q)
  · exact own_via (fun _ k => XS.icmpNo X.here hx (g := mkF m pc Ls (.int y :: .int x :: rest)) rfl hd rfl (flt q).2.2.1 k) (kF q)
theorem own_if_gt (X : Stand p l e R s m args below meth c T locs cells slots) (hx : p.tables.exec = Jvm.exec) {pc pcT pcF : Nat} {Ls : Array Slot} {rest : List Value} {x : Int32} {o : Int} (hd : decode c.code pc = .ok (.ifCond .gt o, 3)) (ho : 0 ≤ (pc : Int) + o) (hT : ((pc : Int) + o).toNat = pcT) (hF : pc + 3 = pcF) (kT : (0 : Int32) < x → own_Ends p e below Φ (T.setTop (mkF m pcT Ls rest))) (kF : ¬ (0 : Int32) < x → own_Ends p e below Φ (T.setTop (mkF m pcF Ls rest))) : own_Ends p e below Φ (T.setTop (mkF m pc Ls (.int x :: rest))) := by
  subst hF; by_cases q : (0 : Int32) < x
  · exact own_via (fun _ k => XS.ifYes X.here hx (g := mkF m pc Ls (.int x :: rest)) rfl (pc0 := pc) (pc' := pcT) rfl hd rfl ((if0 _ _).trans (tlt q).2.2.1) ho hT k) (kT q)
  · exact own_via (fun _ k => XS.ifNo X.here hx (g := mkF m pc Ls (.int x :: rest)) rfl hd rfl ((if0 _ _).trans (flt q).2.2.1) k) (kF q)
theorem own_icmp_le (X : Stand p l e R s m args below meth c T locs cells slots) (hx : p.tables.exec = Jvm.exec) {pc pcT pcF : Nat} {Ls : Array Slot} {rest : List Value} {x y : Int32} {o : Int} (hd : decode c.code pc = .ok (.if_icmp .le o, 3)) (ho : 0 ≤ (pc : Int) + o) (hT : ((pc : Int) + o).toNat = pcT) (hF : pc + 3 = pcF) (kT : ¬ y < x → own_Ends p e below Φ (T.setTop (mkF m pcT Ls rest))) (kF : y < x → own_Ends p e below Φ (T.setTop (mkF m pcF Ls rest))) : own_Ends p e below Φ (T.setTop (mkF m pc Ls (.int y :: .int x :: rest))) := by
  subst hF; by_cases q : y < x
  · exact own_via (fun _ k => XS.icmpNo X.here hx (g := mkF m pc Ls (.int y :: .int x :: rest)) rfl hd rfl (tlt q).2.2.2 k) (kF q)
  · exact own_via (fun _ k => XS.icmpYes X.here hx (g := mkF m pc Ls (.int y :: .int x :: rest)) rfl (pc0 := pc) (pc' := pcT) rfl hd rfl (flt q).2.2.2 ho hT k) (kT q)
theorem own_if_le (X : Stand p l e R s m args below meth c T locs cells slots) (hx : p.tables.exec = Jvm.exec) {pc pcT pcF : Nat} {Ls : Array Slot} {rest : List Value} {x : Int32} {o : Int} (hd : decode c.code pc = .ok (.ifCond .le o, 3)) (ho : 0 ≤ (pc : Int) + o) (hT : ((pc : Int) + o).toNat = pcT) (hF : pc + 3 = pcF) (kT : ¬ (0 : Int32) < x → own_Ends p e below Φ (T.setTop (mkF m pcT Ls rest))) (kF : (0 : Int32) < x → own_Ends p e below Φ (T.setTop (mkF m pcF Ls rest))) : own_Ends p e below Φ (T.setTop (mkF m pc Ls (.int x :: rest))) := by
  subst hF; by_cases q : (0 : Int32) < x
  · exact own_via (fun _ k => XS.ifNo X.here hx (g := mkF m pc Ls (.int x :: rest)) rfl hd rfl ((if0 _ _).trans (tlt q).2.2.2) k) (kF q)
  · exact own_via (fun _ k => XS.ifYes X.here hx (g := mkF m pc Ls (.int x :: rest)) rfl (pc0 := pc) (pc' := pcT) rfl hd rfl ((if0 _ _).trans (flt q).2.2.2) ho hT k) (kT q)
theorem own_icmpT (X : Stand p l e R s m args below meth c T locs cells slots) (hx : p.tables.exec = Jvm.exec) {pc pcT : Nat} {Ls : Array Slot} {rest : List Value} {x y : Int32} {cd : ClassFile.Cond} {o : Int} (hd : decode c.code pc = .ok (.if_icmp cd o, 3)) (ho : 0 ≤ (pc : Int) + o) (hT : ((pc : Int) + o).toNat = pcT) (q : if_icmp.holds cd x y = true) (h : own_Ends p e below Φ (T.setTop (mkF m pcT Ls rest))) : own_Ends p e below Φ (T.setTop (mkF m pc Ls (.int y :: .int x :: rest))) :=
  own_via (fun _ k => XS.icmpYes X.here hx (g := mkF m pc Ls (.int y :: .int x :: rest)) rfl (pc0 := pc) (pc' := pcT) rfl hd rfl q ho hT k) h
theorem own_icmpF (X : Stand p l e R s m args below meth c T locs cells slots) (hx : p.tables.exec = Jvm.exec) {pc pcF : Nat} {Ls : Array Slot} {rest : List Value} {x y : Int32} {cd : ClassFile.Cond} {o : Int} (hd : decode c.code pc = .ok (.if_icmp cd o, 3)) (hF : pc + 3 = pcF) (q : if_icmp.holds cd x y = false) (h : own_Ends p e below Φ (T.setTop (mkF m pcF Ls rest))) : own_Ends p e below Φ (T.setTop (mkF m pc Ls (.int y :: .int x :: rest))) := by
  subst hF; exact own_via (fun _ k => XS.icmpNo X.here hx (g := mkF m pc Ls (.int y :: .int x :: rest)) rfl hd rfl q k) h
theorem own_ifT (X : Stand p l e R s m args below meth c T locs cells slots) (hx : p.tables.exec = Jvm.exec) {pc pcT : Nat} {Ls : Array Slot} {rest : List Value} {x : Int32} {cd : ClassFile.Cond} {o : Int} (hd : decode c.code pc = .ok (.ifCond cd o, 3)) (ho : 0 ≤ (pc : Int) + o) (hT : ((pc : Int) + o).toNat = pcT) (q : if_icmp.holds cd x 0 = true) (h : own_Ends p e below Φ (T.setTop (mkF m pcT Ls rest))) : own_Ends p e below Φ (T.setTop (mkF m pc Ls (.int x :: rest))) :=
  own_via (fun _ k => XS.ifYes X.here hx (g := mkF m pc Ls (.int x :: rest)) rfl (pc0 := pc) (pc' := pcT) rfl hd rfl ((if0 _ _).trans q) ho hT k) h
theorem own_ifF (X : Stand p l e R s m args below meth c T locs cells slots) (hx : p.tables.exec = Jvm.exec) {pc pcF : Nat} {Ls : Array Slot} {rest : List Value} {x : Int32} {cd : ClassFile.Cond} {o : Int} (hd : decode c.code pc = .ok (.ifCond cd o, 3)) (hF : pc + 3 = pcF) (q : if_icmp.holds cd x 0 = false) (h : own_Ends p e below Φ (T.setTop (mkF m pcF Ls rest))) : own_Ends p e below Φ (T.setTop (mkF m pc Ls (.int x :: rest))) := by
  subst hF; exact own_via (fun _ k => XS.ifNo X.here hx (g := mkF m pc Ls (.int x :: rest)) rfl hd rfl ((if0 _ _).trans q) k) h
theorem own_ifnullT (X : Stand p l e R s m args below meth c T locs cells slots) (hx : p.tables.exec = Jvm.exec) {pc pcT : Nat} {Ls : Array Slot} {rest : List Value} {o : Int} (hd : decode c.code pc = .ok (.ifnull o, 3)) (ho : 0 ≤ (pc : Int) + o) (hT : ((pc : Int) + o).toNat = pcT) (h : own_Ends p e below Φ (T.setTop (mkF m pcT Ls rest))) : own_Ends p e below Φ (T.setTop (mkF m pc Ls (.null :: rest))) :=
  own_via (fun _ k => XS.ifnullYes X.here hx (g := mkF m pc Ls (.null :: rest)) rfl (pc0 := pc) (pc' := pcT) rfl hd rfl ho hT k) h
theorem own_ifnullF (X : Stand p l e R s m args below meth c T locs cells slots) (hx : p.tables.exec = Jvm.exec) {pc pcF : Nat} {Ls : Array Slot} {rest : List Value} {b : Addr} {o : Int} (hd : decode c.code pc = .ok (.ifnull o, 3)) (hF : pc + 3 = pcF) (h : own_Ends p e below Φ (T.setTop (mkF m pcF Ls rest))) : own_Ends p e below Φ (T.setTop (mkF m pc Ls (.ref b :: rest))) := by
  subst hF; exact own_via (fun _ k => XS.ifnullNo X.here hx (g := mkF m pc Ls (.ref b :: rest)) rfl hd rfl k) h
theorem own_ifnonnullT (X : Stand p l e R s m args below meth c T locs cells slots) (hx : p.tables.exec = Jvm.exec) {pc pcT : Nat} {Ls : Array Slot} {rest : List Value} {b : Addr} {o : Int} (hd : decode c.code pc = .ok (.ifnonnull o, 3)) (ho : 0 ≤ (pc : Int) + o) (hT : ((pc : Int) + o).toNat = pcT) (h : own_Ends p e below Φ (T.setTop (mkF m pcT Ls rest))) : own_Ends p e below Φ (T.setTop (mkF m pc Ls (.ref b :: rest))) :=
  own_via (fun _ k => XS.ifnonnullYes X.here hx (g := mkF m pc Ls (.ref b :: rest)) rfl (pc0 := pc) (pc' := pcT) rfl hd rfl ho hT k) h
theorem own_ifnonnullF (X : Stand p l e R s m args below meth c T locs cells slots) (hx : p.tables.exec = Jvm.exec) {pc pcF : Nat} {Ls : Array Slot} {rest : List Value} {o : Int} (hd : decode c.code pc = .ok (.ifnonnull o, 3)) (hF : pc + 3 = pcF) (h : own_Ends p e below Φ (T.setTop (mkF m pcF Ls rest))) : own_Ends p e below Φ (T.setTop (mkF m pc Ls (.null :: rest))) := by
  subst hF; exact own_via (fun _ k => XS.ifnonnullNo X.here hx (g := mkF m pc Ls (.null :: rest)) rfl hd rfl k) h
theorem own_acmp (X : Stand p l e R s m args below meth c T locs cells slots) (hx : p.tables.exec = Jvm.exec) {pc pcT pcF : Nat} {Ls : Array Slot} {rest : List Value} {x y : Value} {cd : ClassFile.ACond} {o : Int} (hd : decode c.code pc = .ok (.if_acmp cd o, 3)) (h1 : x.isRef = true) (h2 : y.isRef = true) (ho : 0 ≤ (pc : Int) + o) (hT : ((pc : Int) + o).toNat = pcT) (hF : pc + 3 = pcF)
    (kT : acV cd (decide (x = y)) = true → own_Ends p e below Φ (T.setTop (mkF m pcT Ls rest))) (kF : acV cd (decide (x = y)) = false → own_Ends p e below Φ (T.setTop (mkF m pcF Ls rest))) : own_Ends p e below Φ (T.setTop (mkF m pc Ls (y :: x :: rest))) := by
  subst hF hT
  rcases q : acV cd (decide (x = y)) with _ | _
  · exact own_via (fun _ k => Jvm.RoadKit.acmp (g := mkF m pc Ls (y :: x :: rest)) X hx rfl h1 h2 (pc0 := pc) (pc' := pc + 3) rfl hd rfl rfl ho (by rw [q]; rfl) k) (kF q)
  · exact own_via (fun _ k => Jvm.RoadKit.acmp (g := mkF m pc Ls (y :: x :: rest)) X hx rfl h1 h2 (pc0 := pc) (pc' := ((pc : Int) + o).toNat) rfl hd rfl rfl ho (by rw [q]; rfl) k) (kT q)
theorem own_acmp_eq (X : Stand p l e R s m args below meth c T locs cells slots) (hx : p.tables.exec = Jvm.exec) {pc pcT pcF : Nat} {Ls : Array Slot} {rest : List Value} {x y : Addr} {o : Int} (hd : decode c.code pc = .ok (.if_acmp .eq o, 3)) (ho : 0 ≤ (pc : Int) + o) (hT : ((pc : Int) + o).toNat = pcT) (hF : pc + 3 = pcF)
    (kT : x = y → own_Ends p e below Φ (T.setTop (mkF m pcT Ls rest))) (kF : ¬ x = y → own_Ends p e below Φ (T.setTop (mkF m pcF Ls rest))) : own_Ends p e below Φ (T.setTop (mkF m pc Ls (.ref y :: .ref x :: rest))) :=
  own_acmp X hx hd rfl rfl ho hT hF (fun q => kT (by simpa [acV] using q)) (fun q => kF (by simpa [acV] using q))
theorem own_acmp_ne (X : Stand p l e R s m args below meth c T locs cells slots) (hx : p.tables.exec = Jvm.exec) {pc pcT pcF : Nat} {Ls : Array Slot} {rest : List Value} {x y : Addr} {o : Int} (hd : decode c.code pc = .ok (.if_acmp .ne o, 3)) (ho : 0 ≤ (pc : Int) + o) (hT : ((pc : Int) + o).toNat = pcT) (hF : pc + 3 = pcF)
    (kT : ¬ x = y → own_Ends p e below Φ (T.setTop (mkF m pcT Ls rest))) (kF : x = y → own_Ends p e below Φ (T.setTop (mkF m pcF Ls rest))) : own_Ends p e below Φ (T.setTop (mkF m pc Ls (.ref y :: .ref x :: rest))) :=
  own_acmp X hx hd rfl rfl ho hT hF (fun q => kT (by simpa [acV] using q)) (fun q => kF (by simpa [acV] using q))
theorem own_ldcInt (X : Stand p l e R s m args below meth c T locs cells slots) (hx : p.tables.exec = Jvm.exec) (hZ : Z.Warmed39 s.vm) {own : String} {index : Nat} {v : Int32} (hown : s.vm.findClass own = some m.cls) (w : (Jvm.Cond.constant own index v).before a0 Z = true) {pc pc' : Nat} {Ls : Array Slot} {rest : List Value} (hd : decode c.code pc = .ok (.ldc index, 2)) (hp : pc + 2 = pc') (h : own_Ends p e below Φ (T.setTop (mkF m pc' Ls (.int v :: rest)))) : own_Ends p e below Φ (T.setTop (mkF m pc Ls rest)) := by
  subst hp; exact own_via (X.ldcInt hx hown (mvT hZ w) (g := mkF m pc Ls rest) rfl hd) h
theorem own_getF (X : Stand p l e R s m args below meth c T locs cells slots) (hx : p.tables.exec = Jvm.exec) (hZ : Z.Warmed39 s.vm) {own R0 O n d host : String} {index : Nat} (hown : s.vm.findClass own = some m.cls) (w : (Jvm.Cond.fieldLink own index R0 n d).before a0 Z = true ∨ (Jvm.Cond.fieldLinkNest own index R0 n d host).before a0 Z = true) (via : Via Z R0 O n d) (eT : T.heap = h) {a : Addr} {v : Value} (F : Fld Z h a O n d v) {pc pc' : Nat} {Ls : Array Slot} {rest : List Value}
    (hd : decode c.code pc = .ok (.getfield index, 3)) (hp : pc + 3 = pc') (k : ∀ T', Stand p l e R s m args below meth c T' locs cells slots → T'.heap = h → own_Ends p e below Φ (T'.setTop (mkF m pc' Ls (v :: rest)))) : own_Ends p e below Φ (T.setTop (mkF m pc Ls (.ref a :: rest))) := by
  subst hp; obtain ⟨T', X', e', st⟩ := getF X hx hZ hown w via eT F (g := mkF m pc Ls (.ref a :: rest)) rfl rfl hd
  exact own_via st (k T' X' e')
theorem own_getS (X : Stand p l e R s m args below meth c T locs cells slots) (hx : p.tables.exec = Jvm.exec) (hZ : Z.Warmed39 s.vm) {own R0 O n d host : String} {index : Nat} (hown : s.vm.findClass own = some m.cls) (w : (Jvm.Cond.fieldLink own index R0 n d).before a0 Z = true ∨ (Jvm.Cond.fieldLinkNest own index R0 n d host).before a0 Z = true) (via : Via Z R0 O n d) (eT : T.heap = h) {v : Value} (F : Sta Z h O n d v) {pc pc' : Nat} {Ls : Array Slot} {rest : List Value}
    (hd : decode c.code pc = .ok (.getstatic index, 3)) (hp : pc + 3 = pc') (k : ∀ T', Stand p l e R s m args below meth c T' locs cells slots → T'.heap = h → own_Ends p e below Φ (T'.setTop (mkF m pc' Ls (v :: rest)))) : own_Ends p e below Φ (T.setTop (mkF m pc Ls rest)) := by
  subst hp; obtain ⟨T', X', e', st⟩ := getS2 X hx hZ hown w via eT F (g := mkF m pc Ls rest) rfl hd
  exact own_via st (k T' X' e')
theorem own_putF (X : Stand p l e R s m args below meth c T locs cells slots) (hx : p.tables.exec = Jvm.exec) (hZ : Z.Warmed39 s.vm) {own R0 O n d host C : String} {index kk : Nat} {ty : FieldType} (hown : s.vm.findClass own = some m.cls) (w : (Jvm.Cond.fieldLink own index R0 n d).before a0 Z = true ∨ (Jvm.Cond.fieldLinkNest own index R0 n d host).before a0 Z = true) (via : Via Z R0 O n d) (eT : T.heap = h) {a : Addr} {v old : Value} (F : Fld Z h a O n d old) (E : Exa Z h a C)
    (L : (Jvm.Cond.lays C O n d).before a0 Z = true ∨ ((Jvm.Cond.laysFinal C O n d).before a0 Z = true ∧ own = O ∧ meth.name = "<init>")) (wi : (Jvm.Cond.instantiable C kk).before a0 Z = true) (hty : parseFieldDescriptor d = some ty) (hn : narrow ty v = v) (hf : fits ty v = true) {n0 : Nat} (N : Fr n0 locs) (g : n0 ≤ a) {pc pc' : Nat} {Ls : Array Slot} {rest : List Value}
    (hd : decode c.code pc = .ok (.putfield index, 3)) (hp : pc + 3 = pc') (k : ∀ T' h', Stand p l e R s m args below meth c T' (locs ++ [⟨a, Jvm.RoadKit.slotOf Z O n d⟩]) cells slots → T'.heap = h' → Wr h h' a (Jvm.RoadKit.slotOf Z O n d) v → Fr n0 (locs ++ [⟨a, Jvm.RoadKit.slotOf Z O n d⟩]) → own_Ends p e below Φ (T'.setTop (mkF m pc' Ls rest))) : own_Ends p e below Φ (T.setTop (mkF m pc Ls (v :: .ref a :: rest))) := by
  subst hp; obtain ⟨T', h', X', e', W', st⟩ := putF X hx hZ hown w via eT F E L wi hty hn hf (g := mkF m pc Ls (v :: .ref a :: rest)) rfl rfl hd
  exact own_via st (k T' h' X' e' W' (Fr.snoc X' N g))
theorem own_putFN (X : Stand p l e R s m args below meth c T locs cells slots) (hx : p.tables.exec = Jvm.exec) (hZ : Z.Warmed39 s.vm) {own R0 O n d C : String} {index kk : Nat} {ty : FieldType} (hown : s.vm.findClass own = some m.cls) (w : (Jvm.Cond.fieldLink own index R0 n d).before a0 Z = true) (via : Via Z R0 O n d) (eT : T.heap = h) {a : Addr} {v old : Value} (v' : Value) (F : Fld Z h a O n d old) (E : Exa Z h a C)
    (L : (Jvm.Cond.lays C O n d).before a0 Z = true ∨ ((Jvm.Cond.laysFinal C O n d).before a0 Z = true ∧ own = O ∧ meth.name = "<init>")) (wi : (Jvm.Cond.instantiable C kk).before a0 Z = true) (hty : parseFieldDescriptor d = some ty) (hn : narrow ty v = v') (hf : fits ty v' = true) {n0 : Nat} (N : Fr n0 locs) (g : n0 ≤ a) {pc pc' : Nat} {Ls : Array Slot} {rest : List Value}
    (hd : decode c.code pc = .ok (.putfield index, 3)) (hp : pc + 3 = pc') (k : ∀ T' h', Stand p l e R s m args below meth c T' (locs ++ [⟨a, Jvm.RoadKit.slotOf Z O n d⟩]) cells slots → T'.heap = h' → Wr h h' a (Jvm.RoadKit.slotOf Z O n d) v' → Fr n0 (locs ++ [⟨a, Jvm.RoadKit.slotOf Z O n d⟩]) → own_Ends p e below Φ (T'.setTop (mkF m pc' Ls rest))) : own_Ends p e below Φ (T.setTop (mkF m pc Ls (v :: .ref a :: rest))) := by
  subst hp; obtain ⟨T', h', X', e', W', st⟩ := putFN X hx hZ hown w via eT F E L wi hty hn hf (g := mkF m pc Ls (v :: .ref a :: rest)) rfl rfl hd
  exact own_via st (k T' h' X' e' W' (Fr.snoc X' N g))
theorem own_new (X : Stand p l e R s m args below meth c T locs cells slots) (hx : p.tables.exec = Jvm.exec) (hZ : Z.Warmed39 s.vm) {own C : String} {index n : Nat} (hown : s.vm.findClass own = some m.cls) (w : (Jvm.Cond.classLink own index C).before a0 Z = true) (wi : (Jvm.Cond.instantiable C n).before a0 Z = true) (wz : (Jvm.Cond.initialized C).before a0 Z = true) (eT : T.heap = h) {pc pc' : Nat} {Ls : Array Slot} {rest : List Value}
    (hd : decode c.code pc = .ok (.new index, 3)) (hc : cells + 1 ≤ R.cells) (hl : slots + n ≤ R.slots) (hp : pc + 3 = pc')
    (k : ∀ T' h' b, Stand p l e R s m args below meth c T' locs (cells + 1) (slots + n) → T'.heap = h' → b = h.size → Ext h h' → Exa Z h' b C → (∀ {O nm d : String} {ty : FieldType}, Laid Z a0 C O nm d → parseFieldDescriptor d = some ty → Fld Z h' b O nm d (defaultValue ty)) → own_Ends p e below Φ (T'.setTop (mkF m pc' Ls (.ref b :: rest)))) : own_Ends p e below Φ (T.setTop (mkF m pc Ls rest)) := by
  subst hp; obtain ⟨T', h', X', e', E', A', D', -, st⟩ := newO X hx hZ hown w wi wz eT (g := mkF m pc Ls rest) rfl hd hc hl
  exact own_via st (k T' h' _ X' e' rfl E' A' D')
theorem own_initO (X : Stand p l e R s m args below meth c T locs cells slots) (hx : p.tables.exec = Jvm.exec) (hZ : Z.Warmed39 s.vm) {own : String} {idx : Nat} (hown : s.vm.findClass own = some m.cls) (w1 : (Jvm.Cond.methodLink own idx Lib.objectInit).before a0 Z = true) (w2 : (Jvm.Cond.instanceMethod Lib.objectInit).before a0 Z = true) (w3 : (Jvm.Cond.code Lib.objectInit ⟨#[0xb1]⟩ 1 none).before a0 Z = true) (eT : T.heap = h) {a : Addr} {pc pc' : Nat} {Ls : Array Slot} {rest : List Value} (hsize : Ls.size = c.maxLocals)
    (hd : decode c.code pc = .ok (.invokespecial idx, 3)) (W : Nat) (hW : (rest.map fun v => v.category).sum = W) (hf : 1 ≤ R.frames) (hl : W + 12 ≤ R.locals) (hp : pc + 3 = pc') (k : ∀ T', Stand p l e R s m args below meth c T' locs cells slots → T'.heap = h → own_Ends p e below Φ (T'.setTop (mkF m pc' Ls rest))) : own_Ends p e below Φ (T.setTop (mkF m pc Ls (.ref a :: rest))) := by
  subst hp; obtain ⟨T', X', e', st⟩ := initO X hx hZ hown w1 w2 w3 eT (g := mkF m pc Ls (.ref a :: rest)) rfl hsize rfl hd hf (W := W) (by rw [← hW]; show 2 * 0 + _ ≤ _; omega) hl
  exact own_via st (k T' X' e')
theorem own_static (X : Stand p l e R s m args below meth c T locs cells slots) (hx : p.tables.exec = Jvm.exec) (hZ : Z.Warmed39 s.vm) {own : String} {index : Nat} {y : MethodName} {bytes : ByteArray} {maxL : Nat} {ret : Option FieldType} {rm : Room} {Q : Option Value → Heap → List Loc → Prop} (hown : s.vm.findClass own = some m.cls) (w1 : (Jvm.Cond.methodLink own index y).before a0 Z = true) (w2 : (Jvm.Cond.static y).before a0 Z = true) (w3 : (Jvm.Cond.initialized y.cls).before a0 Z = true) (w4 : (Jvm.Cond.code y bytes maxL ret).before a0 Z = true) (hy : y.cls ≠ "java/lang/invoke/MethodHandle" ∧ y.cls ≠ "java/lang/invoke/VarHandle") (eT : T.heap = h) (hf : rm.frames + 1 ≤ R.frames) {W : Nat} (hl : W + (maxL + 11) + rm.locals ≤ R.locals) (hc : cells + rm.cells ≤ R.cells) (hs : slots + rm.slots ≤ R.slots) {pc pc' : Nat} {Ls : Array Slot} (argsL rest : List Value) {st : List Value} (hsize : Ls.size = c.maxLocals) (hM : own_Met l y bytes maxL ret rm Z argsL.toArray h Q)
    {ps : List FieldType} {r : Option FieldType} (hpd : parseMethodDescriptor y.desc = some ⟨ps, r⟩) (hlen : argsL.length = ps.length) (hst : st = argsL.reverse ++ rest) (hW : (rest.map fun v => v.category).sum = W) (hd : decode c.code pc = .ok (.invokestatic index, 3)) (hp : pc + 3 = pc') (k : ∀ v T' L, Stand p l e R s m args below meth c T' (locs ++ L) (cells + rm.cells) (slots + rm.slots) → Q v T'.heap L → own_Ends p e below Φ (T'.setTop (mkF m pc' Ls (v.toList ++ rest)))) : own_Ends p e below Φ (T.setTop (mkF m pc Ls st)) := by
  subst hp
  obtain ⟨v, _, ⟨T', L', k', n'⟩, -, X', ⟨Lc, hQ, e1, e2, e3⟩, st'⟩ := Jvm.LawKit.callS X hx (y := y) hown (mvT hZ w1) (mvT hZ w2) (mvT hZ w3) (mvT hZ w4) hy (backOf (W := W) (hM []) hZ w4 w3 hf hl) (g := mkF m pc Ls st) rfl hsize (argsL := argsL) (rest := rest) (lenOf hpd hlen) hst (by rw [← hW]; show 2 * 0 + _ ≤ _; omega) hd (fun _ _ => ⟨rfl, eT, hc, hs⟩)
  dsimp only [Pt.U, Pt.locs, Pt.cells, Pt.slots] at X' e1 e2 e3 st' hQ
  subst e1 e2 e3
  exact own_via st' (k v T' Lc X' hQ)
theorem own_special (X : Stand p l e R s m args below meth c T locs cells slots) (hx : p.tables.exec = Jvm.exec) (hZ : Z.Warmed39 s.vm) {own : String} {index : Nat} {y : MethodName} {bytes : ByteArray} {maxL : Nat} {rm : Room} {Q : Option Value → Heap → List Loc → Prop} (hy1 : y.name = "<init>") (hown : s.vm.findClass own = some m.cls) (w1 : (Jvm.Cond.methodLink own index y).before a0 Z = true) (w2 : (Jvm.Cond.instanceMethod y).before a0 Z = true) (w3 : (Jvm.Cond.initialized y.cls).before a0 Z = true) (w4 : (Jvm.Cond.code y bytes maxL none).before a0 Z = true) (hy : y.cls ≠ "java/lang/invoke/MethodHandle" ∧ y.cls ≠ "java/lang/invoke/VarHandle") (eT : T.heap = h) (hf : rm.frames + 1 ≤ R.frames) {W : Nat} (hl : W + (maxL + 11) + rm.locals ≤ R.locals) (hc : cells + rm.cells ≤ R.cells) (hs : slots + rm.slots ≤ R.slots) {pc pc' : Nat} {Ls : Array Slot} (argsL rest : List Value) {st : List Value} (hsize : Ls.size = c.maxLocals) {a : Addr} (hM : own_Met l y bytes maxL none rm Z (.ref a :: argsL).toArray h Q)
    {ps : List FieldType} {r : Option FieldType} (hpd : parseMethodDescriptor y.desc = some ⟨ps, r⟩) (hlen : argsL.length = ps.length) (hst : st = argsL.reverse ++ .ref a :: rest) (hW : (rest.map fun v => v.category).sum = W) (hd : decode c.code pc = .ok (.invokespecial index, 3)) (hp : pc + 3 = pc') (k : ∀ v T' L, Stand p l e R s m args below meth c T' (locs ++ L) (cells + rm.cells) (slots + rm.slots) → Q v T'.heap L → own_Ends p e below Φ (T'.setTop (mkF m pc' Ls (v.toList ++ rest)))) : own_Ends p e below Φ (T.setTop (mkF m pc Ls st)) := by
  subst hp
  obtain ⟨v, _, ⟨T', L', k', n'⟩, -, X', ⟨Lc, hQ, e1, e2, e3⟩, st'⟩ := X.specialBack hx (y := y) hy1 hown (mvT hZ w1) (mvT hZ w2) (mvT hZ w4) hy (backOf (W := W) (hM []) hZ w4 w3 hf hl) (g := mkF m pc Ls st) rfl hsize (Steps.refl _) (a := a) (argsL := argsL) (rest := rest) (lenOf hpd hlen) hst (by rw [← hW]; show 2 * 0 + _ ≤ _; omega) hd (fun _ _ => ⟨rfl, eT, hc, hs⟩)
  dsimp only [Pt.U, Pt.locs, Pt.cells, Pt.slots] at X' e1 e2 e3 st' hQ
  subst e1 e2 e3
  exact own_thru st' (k v T' Lc X' hQ)
theorem own_virtual (X : Stand p l e R s m args below meth c T locs cells slots) (hx : p.tables.exec = Jvm.exec) (hZ : Z.Warmed39 s.vm) {own C : String} {index : Nat} {y z : MethodName} {bytes : ByteArray} {maxL : Nat} {ret : Option FieldType} {rm : Room} {Q : Option Value → Heap → List Loc → Prop} (hown : s.vm.findClass own = some m.cls) (w1 : (Jvm.Cond.methodLink own index y).before a0 Z = true) (w2 : (Jvm.Cond.declares y).before a0 Z = true) (hnf : NotFace s y) (w3 : (Jvm.Cond.selects C y z).before a0 Z = true) (w4 : (Jvm.Cond.instanceMethod z).before a0 Z = true) (w5 : (Jvm.Cond.initialized z.cls).before a0 Z = true) (w6 : (Jvm.Cond.code z bytes maxL ret).before a0 Z = true) (hy : y.cls ≠ "java/lang/invoke/MethodHandle" ∧ y.cls ≠ "java/lang/invoke/VarHandle") (eT : T.heap = h) (hf : rm.frames + 1 ≤ R.frames) {W : Nat} (hl : W + (maxL + 11) + rm.locals ≤ R.locals) (hc : cells + rm.cells ≤ R.cells) (hs : slots + rm.slots ≤ R.slots) {pc pc' : Nat} {Ls : Array Slot} (argsL rest : List Value) {st : List Value} (hsize : Ls.size = c.maxLocals) {a : Addr} (E : Exa Z h a C) (hM : own_Met l z bytes maxL ret rm Z (.ref a :: argsL).toArray h Q)
    {ps : List FieldType} {r : Option FieldType} (hpd : parseMethodDescriptor y.desc = some ⟨ps, r⟩) (hlen : argsL.length = ps.length) (hst : st = argsL.reverse ++ .ref a :: rest) (hW : (rest.map fun v => v.category).sum = W) (hd : decode c.code pc = .ok (.invokevirtual index, 3)) (hp : pc + 3 = pc') (k : ∀ v T' L, Stand p l e R s m args below meth c T' (locs ++ L) (cells + rm.cells) (slots + rm.slots) → Q v T'.heap L → own_Ends p e below Φ (T'.setTop (mkF m pc' Ls (v.toList ++ rest)))) : own_Ends p e below Φ (T.setTop (mkF m pc Ls st)) := by
  subst hp
  obtain ⟨cq, kq, q1, q2, q3⟩ := isOf hZ eT E
  obtain ⟨v, _, ⟨T', L', k', n'⟩, -, X', ⟨Lc, hQ, e1, e2, e3⟩, st'⟩ := X.virtualBack hx (y := y) (z := z) hown (mvT hZ w1) (mvT hZ w2) hnf (mvT hZ w3) (mvT hZ w4) hy (backOf (W := W) (hM []) hZ w6 w5 hf hl) q1 q3 (g := mkF m pc Ls st) rfl hsize (Steps.refl _) (argsL := argsL) (rest := rest) (lenOf hpd hlen) hst (by rw [← hW]; show 2 * 0 + _ ≤ _; omega) hd (fun _ _ => ⟨rfl, eT, hc, hs⟩)
  dsimp only [Pt.U, Pt.locs, Pt.cells, Pt.slots] at X' e1 e2 e3 st' hQ
  subst e1 e2 e3
  exact own_thru st' (k v T' Lc X' hQ)
theorem own_private (X : Stand p l e R s m args below meth c T locs cells slots) (hx : p.tables.exec = Jvm.exec) (hZ : Z.Warmed39 s.vm) {own : String} {index : Nat} {y : MethodName} {bytes : ByteArray} {maxL : Nat} {ret : Option FieldType} {rm : Room} {Q : Option Value → Heap → List Loc → Prop} (hown : s.vm.findClass own = some m.cls) (w1 : (Jvm.Cond.methodLink own index y).before a0 Z = true) (hnf : ∀ c k, s.vm.findClass y.cls = some c → s.vm.classes[c]? = some k → k.isInterface = false) (w4 : (Jvm.Cond.instanceMethod y).before a0 Z = true) (wp : (Jvm.Cond.privateMethod y).before a0 Z = true) (w5 : (Jvm.Cond.initialized y.cls).before a0 Z = true) (w6 : (Jvm.Cond.code y bytes maxL ret).before a0 Z = true) (hy : y.cls ≠ "java/lang/invoke/MethodHandle" ∧ y.cls ≠ "java/lang/invoke/VarHandle") (eT : T.heap = h) (hf : rm.frames + 1 ≤ R.frames) {W : Nat} (hl : W + (maxL + 11) + rm.locals ≤ R.locals) (hc : cells + rm.cells ≤ R.cells) (hs : slots + rm.slots ≤ R.slots) {pc pc' : Nat} {Ls : Array Slot} (argsL rest : List Value) {st : List Value} (hsize : Ls.size = c.maxLocals) {a : Addr} {C : String} (E : Exa Z h a C) (hM : own_Met l y bytes maxL ret rm Z (.ref a :: argsL).toArray h Q)
    {ps : List FieldType} {r : Option FieldType} (hpd : parseMethodDescriptor y.desc = some ⟨ps, r⟩) (hlen : argsL.length = ps.length) (hst : st = argsL.reverse ++ .ref a :: rest) (hW : (rest.map fun v => v.category).sum = W) (hd : decode c.code pc = .ok (.invokevirtual index, 3)) (hp : pc + 3 = pc') (k : ∀ v T' L, Stand p l e R s m args below meth c T' (locs ++ L) (cells + rm.cells) (slots + rm.slots) → Q v T'.heap L → own_Ends p e below Φ (T'.setTop (mkF m pc' Ls (v.toList ++ rest)))) : own_Ends p e below Φ (T.setTop (mkF m pc Ls st)) := by
  subst hp
  obtain ⟨cl, q1, q2⟩ := E.cell
  have hpr := Cond.privateMethod_at (mvP hZ wp (args := args))
  have hin : (Jvm.Cond.instanceMethod y).before args s = true := mvT hZ w4
  obtain ⟨mk, methM, hnamed, hmethM, -, -⟩ := Cond.instanceMethod_spec hin
  obtain ⟨kk, hkk, -⟩ := className_of_methodNamed hnamed
  have hfc := findClass_of_methodNamed hnamed
  have hsel := selects_self_of_private (args := args) hfc hkk (hnf _ _ hfc hkk) hpr hin hy
  obtain ⟨v, _, ⟨T', L', k', n'⟩, -, X', ⟨Lc, hQ, e1, e2, e3⟩, st'⟩ := X.privateBack hx (y := y) hown (mvT hZ w1) hin hsel hpr (mvT hZ w6) hy (backOf (W := W) (hM []) hZ w6 w5 hf hl) (g := mkF m pc Ls st) rfl hsize (Steps.refl _) (a := a) (by rw [eT]; exact q1) q2 (argsL := argsL) (rest := rest) (lenOf hpd hlen) hst (by rw [← hW]; show 2 * 0 + _ ≤ _; omega) hd (fun _ _ => ⟨rfl, eT, hc, hs⟩)
  dsimp only [Pt.U, Pt.locs, Pt.cells, Pt.slots] at X' e1 e2 e3 st' hQ
  subst e1 e2 e3
  exact own_thru st' (k v T' Lc X' hQ)
theorem own_nf (hZ : Z.Warmed39 s.vm) {C : String} {y z : MethodName} (w : (Jvm.Cond.selects C y z).before a0 Z = true) : ∀ c k, s.vm.findClass z.cls = some c → s.vm.classes[c]? = some k → k.isInterface = false := fun c k h1 h2 => by
  obtain ⟨c2, r2, m2, -, -, q3, -, kP, hkP, hkPi⟩ := Cond.selects_spec (show (Jvm.Cond.selects C y z).before #[] s = true from mvT hZ w)
  have := findClass_of_methodNamed q3
  cases this.symm.trans h1
  cases hkP.symm.trans h2
  exact hkPi
theorem own_leave (X : Stand p l e R s m args below meth c T locs cells slots) (hlocks : meth.locks = false) {v : Option Value} (hv : meth.sig.returnType = none → v = none) {Q : Option Value → Heap → List Loc → Prop} {kc ks : Nat} (hc : cells ≤ kc) (hs : slots ≤ ks) (hq : Q v T.heap locs) {t : State}
    (step : ∀ fs, (∀ (f : JFrame) (acts : List Action), f.method = m → f.locked = none → f.entered = [] → (doReturn e (T.setTop f) acts v).1 = T.setFrames fs) → Steps p.tables e below t (T.setFrames fs)) : own_Ends p e below (own_Post s Q kc ks) t := by
  obtain ⟨fs, hr, hrun, hended, hW, hsame⟩ := X.leave (v := v) hv hlocks
  exact ⟨_, _, step fs hr, hrun, hended, v, locs, rfl, hq, ⟨_, rfl⟩, hW, hsame.mono hc hs⟩
theorem own_retN (X : Stand p l e R s m args below meth c T locs cells slots) (hx : p.tables.exec = Jvm.exec) (hlocks : meth.locks = false) {t : FieldType} (hret : meth.sig.returnType = some t) (ht : t = .boolean ∨ t = .byte ∨ t = .char ∨ t = .short) {pc : Nat} {Ls : Array Slot} {z : Int32} {rest : List Value} (hd : decode c.code pc = .ok (.ireturn, 1)) {Q : Option Value → Heap → List Loc → Prop} {kc ks : Nat} (hc : cells ≤ kc) (hs : slots ≤ ks) (hn : nar t z = z) (hq : Q (some (.int z)) T.heap locs) :
    own_Ends p e below (own_Post s Q kc ks) (T.setTop (mkF m pc Ls (.int z :: rest))) :=
  own_leave X hlocks (v := some (.int (nar t z))) (fun h => by rw [hret] at h; cases h) hc hs (by rw [hn]; exact hq) (fun fs hr => retN X hx hret ht hd hr)
theorem own_retI (X : Stand p l e R s m args below meth c T locs cells slots) (hx : p.tables.exec = Jvm.exec) (hlocks : meth.locks = false) (hret : meth.sig.returnType = some .int) {pc : Nat} {Ls : Array Slot} {z : Int32} {rest : List Value} (hd : decode c.code pc = .ok (.ireturn, 1)) {Q : Option Value → Heap → List Loc → Prop} {kc ks : Nat} (hc : cells ≤ kc) (hs : slots ≤ ks) (hq : Q (some (.int z)) T.heap locs) :
    own_Ends p e below (own_Post s Q kc ks) (T.setTop (mkF m pc Ls (.int z :: rest))) :=
  own_leave X hlocks (v := some (.int z)) (fun h => by rw [hret] at h; cases h) hc hs hq (fun fs hr => retOut X hx hret (w := .int z) rfl (Or.inl ⟨rfl, Or.inl rfl, z, rfl⟩) hd hr)
theorem own_retJ (X : Stand p l e R s m args below meth c T locs cells slots) (hx : p.tables.exec = Jvm.exec) (hlocks : meth.locks = false) (hret : meth.sig.returnType = some .long) {pc : Nat} {Ls : Array Slot} {z : Int64} {rest : List Value} (hd : decode c.code pc = .ok (.lreturn, 1)) {Q : Option Value → Heap → List Loc → Prop} {kc ks : Nat} (hc : cells ≤ kc) (hs : slots ≤ ks) (hq : Q (some (.long z)) T.heap locs) :
    own_Ends p e below (own_Post s Q kc ks) (T.setTop (mkF m pc Ls (.long z :: rest))) :=
  own_leave X hlocks (v := some (.long z)) (fun h => by rw [hret] at h; cases h) hc hs hq (fun fs hr => retOut X hx hret (w := .long z) rfl (Or.inr (Or.inl ⟨rfl, rfl, z, rfl⟩)) hd hr)
theorem own_narR {t : FieldType} (ht : t.isReference = true) {w : Value} (hw : w.isRef = true) : narrow t w = w := by cases t <;> first | (cases w <;> first | rfl | cases hw) | cases ht
theorem own_retA (X : Stand p l e R s m args below meth c T locs cells slots) (hx : p.tables.exec = Jvm.exec) (hlocks : meth.locks = false) {t : FieldType} (hret : meth.sig.returnType = some t) (ht : t.isReference = true) {pc : Nat} {Ls : Array Slot} {w : Value} (hw : w.isRef = true) {rest : List Value} (hd : decode c.code pc = .ok (.areturn, 1)) {Q : Option Value → Heap → List Loc → Prop} {kc ks : Nat} (hc : cells ≤ kc) (hs : slots ≤ ks) (hq : Q (some w) T.heap locs) :
    own_Ends p e below (own_Post s Q kc ks) (T.setTop (mkF m pc Ls (w :: rest))) :=
  own_leave X hlocks (v := some w) (fun h => by rw [hret] at h; cases h) hc hs hq (fun fs hr => retOut X hx hret (own_narR ht hw) (Or.inr (Or.inr (Or.inr (Or.inr ⟨rfl, ht, hw⟩)))) hd hr)
theorem own_ret (X : Stand p l e R s m args below meth c T locs cells slots) (hx : p.tables.exec = Jvm.exec) (hlocks : meth.locks = false) (hret : meth.sig.returnType = none) {pc : Nat} {Ls : Array Slot} (hd : decode c.code pc = .ok (.return_, 1)) {Q : Option Value → Heap → List Loc → Prop} {kc ks : Nat} (hc : cells ≤ kc) (hs : slots ≤ ks) (hq : Q none T.heap locs) :
    own_Ends p e below (own_Post s Q kc ks) (T.setTop (mkF m pc Ls [])) :=
  own_leave X hlocks (v := none) (fun _ => rfl) hc hs hq (fun fs hr => X.returnOut hx hret hd hr)
end OwnKit
section OwnKitH
variable {p : Program} {l : Launch} {e : Env} {R : Room} {s : State} {m : MethodId} {args : Array Value} {below : List Frame} {meth : Method} {c : Code} {T : State} {locs : List Loc} {cells slots : Nat} {Z : State} {a0 : Array Value} {h : Heap} {Φ : Outcome → State → Prop} {vm0 : Vm} {EL : List (String × Nat)} {h0 : Heap}
def own_H (Z : State) (EL : List (String × Nat)) (s : State) (h0 : Heap) (vm0 : Vm) (h : Heap) : Prop := s.heap = h0 ∧ (∃ k0, s.Since vm0 k0 ∧ k0 ≤ h.size) ∧ CHr Z EL s.vm h0 vm0 h
theorem own_H.ext {h' : Heap} (H : own_H Z EL s h0 vm0 h) (E : Ext h h') : own_H Z EL s h0 vm0 h' := ⟨H.1, by obtain ⟨k, h1, h2⟩ := H.2.1; exact ⟨k, h1, Nat.le_trans h2 E.1⟩, H.2.2.trans (CHr.ext E H.2.2.1)⟩
theorem own_H.wr {h' : Heap} {a : Addr} {sl : Nat} {v : Value} (H : own_H Z EL s h0 vm0 h) (W : Wr h h' a sl v) (S : Safe Z EL vm0 h a) : own_H Z EL s h0 vm0 h' := ⟨H.1, by obtain ⟨k, h1, h2⟩ := H.2.1; exact ⟨k, h1, by rw [W.size]; exact h2⟩, H.2.2.trans (CHr.wr W S H.2.2.1)⟩
theorem own_H.keep {h' : Heap} {ws : List Addr} (H : own_H Z EL s h0 vm0 h) (K : Keep h h' ws) (S : ∀ x ∈ ws, Safe Z EL vm0 h x) : own_H Z EL s h0 vm0 h' := ⟨H.1, by obtain ⟨k, h1, h2⟩ := H.2.1; exact ⟨k, h1, Nat.le_trans h2 K.1⟩, H.2.2.trans (CHr.keep K S H.2.2.1)⟩
theorem own_H.ch (H : own_H Z EL s h0 vm0 h) : CHv Z EL vm0 h := H.2.2.1
theorem own_sfE {h' : Heap} {y : Addr} (S : Safe Z EL vm0 h y) (E : Ext h h') (H : own_H Z EL s h0 vm0 h) : Safe Z EL vm0 h' y := Safe.ext E H.ch S
theorem own_sfN {h' : Heap} {y : Addr} (q : y = h.size) (E : Ext h h') (H : own_H Z EL s h0 vm0 h) : Safe Z EL vm0 h' y := Safe.ext E H.ch (Safe.new (Nat.le_of_eq q.symm))
theorem own_sfW {h' : Heap} {y a : Addr} {sl : Nat} {v : Value} (S : Safe Z EL vm0 h y) (W : Wr h h' a sl v) (Sa : Safe Z EL vm0 h a) (H : own_H Z EL s h0 vm0 h) : Safe Z EL vm0 h' y := Safe.wr W Sa H.ch S
theorem own_sfK {h' : Heap} {y : Addr} {ws : List Addr} (S : Safe Z EL vm0 h y) (K : Keep h h' ws) (Sw : ∀ x ∈ ws, Safe Z EL vm0 h x) (H : own_H Z EL s h0 vm0 h) : Safe Z EL vm0 h' y := Safe.keep K Sw H.ch S
def own_PostH (Z : State) (EL : List (String × Nat)) (s : State) (Q : Option Value → Heap → List Loc → Prop) (kc ks : Nat) (o : Outcome) (U : State) : Prop := ∃ v L, o = .returned v ∧ Q v U.heap L ∧ CHr Z EL s.vm s.heap U.vm U.heap ∧ ReturnedEndW s o U L kc ks
def own_MetH (l : Launch) (y : MethodName) (bytes : ByteArray) (maxL : Nat) (ret : Option FieldType) (rm : Room) (Z : State) (EL : List (String × Nat)) (as' : Array Value) (h0 : Heap) (Q : Option Value → Heap → List Loc → Prop) : Prop :=
  ∀ ws : List Jvm.Cond, MetFree l y (head1 (Jvm.Cond.code y bytes maxL ret :: ws) rm) (fun a U => a = as' ∧ Z.Warmed39 U.vm ∧ U.heap = h0 ∧ CHv Z EL U.vm h0) (fun _ _ _ _ _ => True) (fun _ U o U' => ∃ v L, o = .returned v ∧ Q v U'.heap L ∧ CHr Z EL U.vm U.heap U'.vm U'.heap ∧ ReturnedEndW U o U' L rm.cells rm.slots)
theorem own_metH {y : MethodName} {bytes : ByteArray} {maxL : Nat} {ret : Option FieldType} {rm : Room} {as' : Array Value} {Q : Option Value → Heap → List Loc → Prop} (hp : plainFor y = true)
    (body : ∀ (p : Program) (e : Env) (s : State) (m : MethodId) (below : List Frame) (meth : Method) (c : Code) (T : State), p.tables.exec = Jvm.exec → c.code = bytes → c.maxLocals = maxL → Z.Warmed39 (s.setVm s.vm).vm → (s.setVm s.vm).vm.findClass y.cls = some m.cls → meth.name = y.name → meth.sig.returnType = ret → meth.locks = false →
      Stand p l e rm (s.setVm s.vm) m as' below meth c T [] 0 0 → T.heap = h0 → s.heap = h0 → own_H Z EL s h0 s.vm h0 → own_Ends p e below (own_PostH Z EL s Q rm.cells rm.slots) (T.setTop (entryFrame m as' maxL))) : own_MetH l y bytes maxL ret rm Z EL as' h0 Q := by
  intro ws
  refine MetFree.of_bodySF hp hisR ?_
  intro p e s m args below meth c s₁ Bd hml0 hP hK
  obtain ⟨rfl, hZ, hh, hC⟩ := hP
  exact body p e s m below meth c s₁ Bd.exec Bd.bytes hml0 hZ (findClass_of_methodNamed Bd.named) (name_of_methodNamed Bd.named Bd.method).1 Bd.returns (BodyLoose.notSynchronized Bd) (Stand.of_body Bd) (by rw [← hh, Bd.state]; rfl) hh ⟨hh, ⟨0, ⟨State.Warmed39.refl s, (State.WarmedH.refl s).no_new_pair 0⟩, Nat.zero_le _⟩, CHr.refl hC⟩
/-- a plain contract serves where an H one is asked -/
theorem own_leaveH (X : Stand p l e R (s.setVm vm0) m args below meth c T locs cells slots) (hlocks : meth.locks = false) {v : Option Value} (hv : meth.sig.returnType = none → v = none) (hZ : Z.Warmed39 (s.setVm vm0).vm) (eT : T.heap = h) (HH : own_H Z EL s h0 vm0 h) (hEL : EW Z a0 EL) {Q : Option Value → Heap → List Loc → Prop} {kc ks : Nat} (hc : cells ≤ kc) (hs : slots ≤ ks) (hq : Q v T.heap locs) {t : State}
    (step : ∀ fs, (∀ (f : JFrame) (acts : List Action), f.method = m → f.locked = none → f.entered = [] → (doReturn e (T.setTop f) acts v).1 = T.setFrames fs) → Steps p.tables e below t (T.setFrames fs)) : own_Ends p e below (own_PostH Z EL s Q kc ks) t := by
  obtain ⟨hh, ⟨k0, hS, hk⟩, hC⟩ := HH
  obtain ⟨fs, hr, hrun, hended, hE⟩ := X.leaveW hS (by rw [eT]; exact hk) (v := v) hv hlocks
  subst hh eT
  have A := hC.trans (CHv.at X hZ hEL hC.1)
  exact ⟨_, _, step fs hr, hrun, hended, v, locs, rfl, hq, A, hE.1, hE.2.1, hE.2.2.1, hE.2.2.2.mono hc hs⟩
theorem own_retNH (X : Stand p l e R (s.setVm vm0) m args below meth c T locs cells slots) (hx : p.tables.exec = Jvm.exec) (hZ : Z.Warmed39 (s.setVm vm0).vm) (eT : T.heap = h) (HH : own_H Z EL s h0 vm0 h) (hEL : EW Z a0 EL) (hlocks : meth.locks = false) {t : FieldType} (hret : meth.sig.returnType = some t) (ht : t = .boolean ∨ t = .byte ∨ t = .char ∨ t = .short) {pc : Nat} {Ls : Array Slot} {z : Int32} {rest : List Value} (hd : decode c.code pc = .ok (.ireturn, 1)) {Q : Option Value → Heap → List Loc → Prop} {kc ks : Nat} (hc : cells ≤ kc) (hs : slots ≤ ks) (hn : nar t z = z) (hq : Q (some (.int z)) T.heap locs) :
    own_Ends p e below (own_PostH Z EL s Q kc ks) (T.setTop (mkF m pc Ls (.int z :: rest))) :=
  own_leaveH X hlocks (v := some (.int (nar t z))) (fun h => by rw [hret] at h; cases h) hZ eT HH hEL hc hs (by rw [hn]; exact hq) (fun fs hr => retN X hx hret ht hd hr)
theorem own_retIH (X : Stand p l e R (s.setVm vm0) m args below meth c T locs cells slots) (hx : p.tables.exec = Jvm.exec) (hZ : Z.Warmed39 (s.setVm vm0).vm) (eT : T.heap = h) (HH : own_H Z EL s h0 vm0 h) (hEL : EW Z a0 EL) (hlocks : meth.locks = false) (hret : meth.sig.returnType = some .int) {pc : Nat} {Ls : Array Slot} {z : Int32} {rest : List Value} (hd : decode c.code pc = .ok (.ireturn, 1)) {Q : Option Value → Heap → List Loc → Prop} {kc ks : Nat} (hc : cells ≤ kc) (hs : slots ≤ ks) (hq : Q (some (.int z)) T.heap locs) :
    own_Ends p e below (own_PostH Z EL s Q kc ks) (T.setTop (mkF m pc Ls (.int z :: rest))) :=
  own_leaveH X hlocks (v := some (.int z)) (fun h => by rw [hret] at h; cases h) hZ eT HH hEL hc hs hq (fun fs hr => retOut X hx hret (w := .int z) rfl (Or.inl ⟨rfl, Or.inl rfl, z, rfl⟩) hd hr)
theorem own_retJH (X : Stand p l e R (s.setVm vm0) m args below meth c T locs cells slots) (hx : p.tables.exec = Jvm.exec) (hZ : Z.Warmed39 (s.setVm vm0).vm) (eT : T.heap = h) (HH : own_H Z EL s h0 vm0 h) (hEL : EW Z a0 EL) (hlocks : meth.locks = false) (hret : meth.sig.returnType = some .long) {pc : Nat} {Ls : Array Slot} {z : Int64} {rest : List Value} (hd : decode c.code pc = .ok (.lreturn, 1)) {Q : Option Value → Heap → List Loc → Prop} {kc ks : Nat} (hc : cells ≤ kc) (hs : slots ≤ ks) (hq : Q (some (.long z)) T.heap locs) :
    own_Ends p e below (own_PostH Z EL s Q kc ks) (T.setTop (mkF m pc Ls (.long z :: rest))) :=
  own_leaveH X hlocks (v := some (.long z)) (fun h => by rw [hret] at h; cases h) hZ eT HH hEL hc hs hq (fun fs hr => retOut X hx hret (w := .long z) rfl (Or.inr (Or.inl ⟨rfl, rfl, z, rfl⟩)) hd hr)
theorem own_retAH (X : Stand p l e R (s.setVm vm0) m args below meth c T locs cells slots) (hx : p.tables.exec = Jvm.exec) (hZ : Z.Warmed39 (s.setVm vm0).vm) (eT : T.heap = h) (HH : own_H Z EL s h0 vm0 h) (hEL : EW Z a0 EL) (hlocks : meth.locks = false) {t : FieldType} (hret : meth.sig.returnType = some t) (ht : t.isReference = true) {pc : Nat} {Ls : Array Slot} {w : Value} (hw : w.isRef = true) {rest : List Value} (hd : decode c.code pc = .ok (.areturn, 1)) {Q : Option Value → Heap → List Loc → Prop} {kc ks : Nat} (hc : cells ≤ kc) (hs : slots ≤ ks) (hq : Q (some w) T.heap locs) :
    own_Ends p e below (own_PostH Z EL s Q kc ks) (T.setTop (mkF m pc Ls (w :: rest))) :=
  own_leaveH X hlocks (v := some w) (fun h => by rw [hret] at h; cases h) hZ eT HH hEL hc hs hq (fun fs hr => retOut X hx hret (own_narR ht hw) (Or.inr (Or.inr (Or.inr (Or.inr ⟨rfl, ht, hw⟩)))) hd hr)
theorem own_retH (X : Stand p l e R (s.setVm vm0) m args below meth c T locs cells slots) (hx : p.tables.exec = Jvm.exec) (hZ : Z.Warmed39 (s.setVm vm0).vm) (eT : T.heap = h) (HH : own_H Z EL s h0 vm0 h) (hEL : EW Z a0 EL) (hlocks : meth.locks = false) (hret : meth.sig.returnType = none) {pc : Nat} {Ls : Array Slot} (hd : decode c.code pc = .ok (.return_, 1)) {Q : Option Value → Heap → List Loc → Prop} {kc ks : Nat} (hc : cells ≤ kc) (hs : slots ≤ ks) (hq : Q none T.heap locs) :
    own_Ends p e below (own_PostH Z EL s Q kc ks) (T.setTop (mkF m pc Ls [])) :=
  own_leaveH X hlocks (v := none) (fun _ => rfl) hZ eT HH hEL hc hs hq (fun fs hr => X.returnOut hx hret hd hr)
theorem own_staticH (X : Stand p l e R (s.setVm vm0) m args below meth c T locs cells slots) (hx : p.tables.exec = Jvm.exec) (hZ : Z.Warmed39 (s.setVm vm0).vm) {own : String} {index : Nat} {y : MethodName} {bytes : ByteArray} {maxL : Nat} {ret : Option FieldType} {rm : Room} {Q : Option Value → Heap → List Loc → Prop} (hown : (s.setVm vm0).vm.findClass own = some m.cls) (w1 : (Jvm.Cond.methodLink own index y).before a0 Z = true) (w2 : (Jvm.Cond.static y).before a0 Z = true) (w3 : (Jvm.Cond.initialized y.cls).before a0 Z = true) (w4 : (Jvm.Cond.code y bytes maxL ret).before a0 Z = true) (hy : y.cls ≠ "java/lang/invoke/MethodHandle" ∧ y.cls ≠ "java/lang/invoke/VarHandle") (HH : own_H Z EL s h0 vm0 h) (hEL : EW Z a0 EL) (eT : T.heap = h) (hf : rm.frames + 1 ≤ R.frames) {W : Nat} (hl : W + (maxL + 11) + rm.locals ≤ R.locals) (hc : cells + rm.cells ≤ R.cells) (hs : slots + rm.slots ≤ R.slots) {pc pc' : Nat} {Ls : Array Slot} (argsL rest : List Value) {st : List Value} (hsize : Ls.size = c.maxLocals) (hM : own_MetH l y bytes maxL ret rm Z EL argsL.toArray h Q)
    {ps : List FieldType} {r : Option FieldType} (hpd : parseMethodDescriptor y.desc = some ⟨ps, r⟩) (hlen : argsL.length = ps.length) (hst : st = argsL.reverse ++ rest) (hW : (rest.map fun v => v.category).sum = W) (hd : decode c.code pc = .ok (.invokestatic index, 3)) (hp : pc + 3 = pc') (k : ∀ v T' L, Stand p l e R (s.setVm T'.vm) m args below meth c T' (locs ++ L) (cells + rm.cells) (slots + rm.slots) → Q v T'.heap L → Z.Warmed39 (s.setVm T'.vm).vm → (s.setVm T'.vm).vm.findClass own = some m.cls → own_H Z EL s h0 T'.vm T'.heap → CHr Z EL vm0 h T'.vm T'.heap → own_Ends p e below Φ (T'.setTop (mkF m pc' Ls (v.toList ++ rest)))) : own_Ends p e below Φ (T.setTop (mkF m pc Ls st)) := by
  subst hp
  obtain ⟨v, _, ⟨T', L', k', n'⟩, -, X', hS', hgr, ⟨Lc, hQ, e1, e2, e3, hC⟩, st'⟩ :=  callSS X hx (y := y) hown (mvT hZ w1) (mvT hZ w2) (mvT hZ w3) (mvT hZ w4) hy (backOfSH (s := s) (vm0 := vm0) (W := W) (hM []) hZ w4 w3 hf hl hEL HH.ch) (g := mkF m pc Ls st) rfl hsize (argsL := argsL) (rest := rest) (lenOf hpd hlen) hst (by rw [← hW]; show 2 * 0 + _ ≤ _; omega) hd (fun _ _ => ⟨rfl, eT, hc, hs⟩)
  dsimp only [Pt.U, Pt.locs, Pt.cells, Pt.slots] at X' hS' hgr e1 e2 e3 hC st' hQ
  subst e1 e2 e3
  obtain ⟨hh, ⟨k0, hS, hk⟩, hC0⟩ := HH
  subst eT
  exact own_thru st' (k v T' Lc X' hQ (State.Warmed39.trans (t := s.setVm vm0) hZ hS'.1) (by rw [show (s.setVm T'.vm).vm = T'.vm from rfl, hS'.1.alike.findClass]; exact hown) ⟨hh, ⟨_, hS.trans hS' (Nat.le_trans hk hgr), Nat.le_refl _⟩, hC0.trans hC⟩ hC)
theorem own_specialH (X : Stand p l e R (s.setVm vm0) m args below meth c T locs cells slots) (hx : p.tables.exec = Jvm.exec) (hZ : Z.Warmed39 (s.setVm vm0).vm) {own : String} {index : Nat} {y : MethodName} {bytes : ByteArray} {maxL : Nat} {rm : Room} {Q : Option Value → Heap → List Loc → Prop} (hy1 : y.name = "<init>") (hown : (s.setVm vm0).vm.findClass own = some m.cls) (w1 : (Jvm.Cond.methodLink own index y).before a0 Z = true) (w2 : (Jvm.Cond.instanceMethod y).before a0 Z = true) (w3 : (Jvm.Cond.initialized y.cls).before a0 Z = true) (w4 : (Jvm.Cond.code y bytes maxL none).before a0 Z = true) (hy : y.cls ≠ "java/lang/invoke/MethodHandle" ∧ y.cls ≠ "java/lang/invoke/VarHandle") (HH : own_H Z EL s h0 vm0 h) (hEL : EW Z a0 EL) (eT : T.heap = h) (hf : rm.frames + 1 ≤ R.frames) {W : Nat} (hl : W + (maxL + 11) + rm.locals ≤ R.locals) (hc : cells + rm.cells ≤ R.cells) (hs : slots + rm.slots ≤ R.slots) {pc pc' : Nat} {Ls : Array Slot} (argsL rest : List Value) {st : List Value} (hsize : Ls.size = c.maxLocals) {a : Addr} (hM : own_MetH l y bytes maxL none rm Z EL (.ref a :: argsL).toArray h Q)
    {ps : List FieldType} {r : Option FieldType} (hpd : parseMethodDescriptor y.desc = some ⟨ps, r⟩) (hlen : argsL.length = ps.length) (hst : st = argsL.reverse ++ .ref a :: rest) (hW : (rest.map fun v => v.category).sum = W) (hd : decode c.code pc = .ok (.invokespecial index, 3)) (hp : pc + 3 = pc') (k : ∀ v T' L, Stand p l e R (s.setVm T'.vm) m args below meth c T' (locs ++ L) (cells + rm.cells) (slots + rm.slots) → Q v T'.heap L → Z.Warmed39 (s.setVm T'.vm).vm → (s.setVm T'.vm).vm.findClass own = some m.cls → own_H Z EL s h0 T'.vm T'.heap → CHr Z EL vm0 h T'.vm T'.heap → own_Ends p e below Φ (T'.setTop (mkF m pc' Ls (v.toList ++ rest)))) : own_Ends p e below Φ (T.setTop (mkF m pc Ls st)) := by
  subst hp
  obtain ⟨v, _, ⟨T', L', k', n'⟩, -, X', hS', hgr, ⟨Lc, hQ, e1, e2, e3, hC⟩, st'⟩ :=  X.specialBackS hx (y := y) hy1 hown (mvT hZ w1) (mvT hZ w2) (mvT hZ w4) hy (backOfSH (s := s) (vm0 := vm0) (W := W) (hM []) hZ w4 w3 hf hl hEL HH.ch) (g := mkF m pc Ls st) rfl hsize (Steps.refl _) (a := a) (argsL := argsL) (rest := rest) (lenOf hpd hlen) hst (by rw [← hW]; show 2 * 0 + _ ≤ _; omega) hd (fun _ _ => ⟨rfl, eT, hc, hs⟩)
  dsimp only [Pt.U, Pt.locs, Pt.cells, Pt.slots] at X' hS' hgr e1 e2 e3 hC st' hQ
  subst e1 e2 e3
  obtain ⟨hh, ⟨k0, hS, hk⟩, hC0⟩ := HH
  subst eT
  exact own_thru st' (k v T' Lc X' hQ (State.Warmed39.trans (t := s.setVm vm0) hZ hS'.1) (by rw [show (s.setVm T'.vm).vm = T'.vm from rfl, hS'.1.alike.findClass]; exact hown) ⟨hh, ⟨_, hS.trans hS' (Nat.le_trans hk hgr), Nat.le_refl _⟩, hC0.trans hC⟩ hC)
theorem own_virtualH (X : Stand p l e R (s.setVm vm0) m args below meth c T locs cells slots) (hx : p.tables.exec = Jvm.exec) (hZ : Z.Warmed39 (s.setVm vm0).vm) {own C : String} {index : Nat} {y z : MethodName} {bytes : ByteArray} {maxL : Nat} {ret : Option FieldType} {rm : Room} {Q : Option Value → Heap → List Loc → Prop} (hown : (s.setVm vm0).vm.findClass own = some m.cls) (w1 : (Jvm.Cond.methodLink own index y).before a0 Z = true) (w2 : (Jvm.Cond.declares y).before a0 Z = true) (hnf : NotFace (s.setVm vm0) y) (w3 : (Jvm.Cond.selects C y z).before a0 Z = true) (w4 : (Jvm.Cond.instanceMethod z).before a0 Z = true) (w5 : (Jvm.Cond.initialized z.cls).before a0 Z = true) (w6 : (Jvm.Cond.code z bytes maxL ret).before a0 Z = true) (hy : y.cls ≠ "java/lang/invoke/MethodHandle" ∧ y.cls ≠ "java/lang/invoke/VarHandle") (HH : own_H Z EL s h0 vm0 h) (hEL : EW Z a0 EL) (eT : T.heap = h) (hf : rm.frames + 1 ≤ R.frames) {W : Nat} (hl : W + (maxL + 11) + rm.locals ≤ R.locals) (hc : cells + rm.cells ≤ R.cells) (hs : slots + rm.slots ≤ R.slots) {pc pc' : Nat} {Ls : Array Slot} (argsL rest : List Value) {st : List Value} (hsize : Ls.size = c.maxLocals) {a : Addr} (E : Exa Z h a C) (hM : own_MetH l z bytes maxL ret rm Z EL (.ref a :: argsL).toArray h Q)
    {ps : List FieldType} {r : Option FieldType} (hpd : parseMethodDescriptor y.desc = some ⟨ps, r⟩) (hlen : argsL.length = ps.length) (hst : st = argsL.reverse ++ .ref a :: rest) (hW : (rest.map fun v => v.category).sum = W) (hd : decode c.code pc = .ok (.invokevirtual index, 3)) (hp : pc + 3 = pc') (k : ∀ v T' L, Stand p l e R (s.setVm T'.vm) m args below meth c T' (locs ++ L) (cells + rm.cells) (slots + rm.slots) → Q v T'.heap L → Z.Warmed39 (s.setVm T'.vm).vm → (s.setVm T'.vm).vm.findClass own = some m.cls → own_H Z EL s h0 T'.vm T'.heap → CHr Z EL vm0 h T'.vm T'.heap → own_Ends p e below Φ (T'.setTop (mkF m pc' Ls (v.toList ++ rest)))) : own_Ends p e below Φ (T.setTop (mkF m pc Ls st)) := by
  subst hp
  obtain ⟨cq, kq, q1, q2, q3⟩ := isOf hZ eT E
  obtain ⟨v, _, ⟨T', L', k', n'⟩, -, X', hS', hgr, ⟨Lc, hQ, e1, e2, e3, hC⟩, st'⟩ :=  X.virtualBackS hx (y := y) (z := z) hown (mvT hZ w1) (mvT hZ w2) hnf (mvT hZ w3) (mvT hZ w4) hy (backOfSH (s := s) (vm0 := vm0) (W := W) (hM []) hZ w6 w5 hf hl hEL HH.ch) q1 q3 (g := mkF m pc Ls st) rfl hsize (Steps.refl _) (argsL := argsL) (rest := rest) (lenOf hpd hlen) hst (by rw [← hW]; show 2 * 0 + _ ≤ _; omega) hd (fun _ _ => ⟨rfl, eT, hc, hs⟩)
  dsimp only [Pt.U, Pt.locs, Pt.cells, Pt.slots] at X' hS' hgr e1 e2 e3 hC st' hQ
  subst e1 e2 e3
  obtain ⟨hh, ⟨k0, hS, hk⟩, hC0⟩ := HH
  subst eT
  exact own_thru st' (k v T' Lc X' hQ (State.Warmed39.trans (t := s.setVm vm0) hZ hS'.1) (by rw [show (s.setVm T'.vm).vm = T'.vm from rfl, hS'.1.alike.findClass]; exact hown) ⟨hh, ⟨_, hS.trans hS' (Nat.le_trans hk hgr), Nat.le_refl _⟩, hC0.trans hC⟩ hC)
/-- ldc of a String literal, its text read -/
theorem own_ldcS (X : Stand p l e R (s.setVm vm0) m args below meth c T locs cells slots) (hx : p.tables.exec = Jvm.exec) (hZ : Z.Warmed39 (s.setVm vm0).vm) {own text : String} {index : Nat} (hown : (s.setVm vm0).vm.findClass own = some m.cls) (w : (Jvm.Cond.stringLink own index text).before a0 Z = true) (wS : ∀ a ∈ Bundle.stringAtoms, a.before a0 Z = true) (eT : T.heap = h) (HH : own_H Z EL s h0 vm0 h) (hEL : EW Z a0 EL) (hmem : (own, index) ∈ EL)
    {vs : List Value} {z : Int32} (ht : (∀ c ∈ text.toList, c.toNat < 256) ∧ text.toList.map (fun c => Value.int (Jvm.Lit.byteI c.toNat.toUInt16)) = vs) (hz : ¬ z < 0) (hl : z.toNatClampNeg = vs.length) {pc pc' : Nat} {Ls : Array Slot} {rest : List Value} (hd : decode c.code pc = .ok (.ldc index, 2)) (n : Nat) (hn : 4 * text.toList.length ≤ n) (hbig : n ≤ 536870912) (hc : cells + 2 ≤ R.cells) (hl' : slots + (n + 4) ≤ R.slots) (hp : pc + 2 = pc')
    (k : ∀ (a : Addr) (T' : State) (h' : Heap) (b : Addr) (kk : ClassId), Stand p l e R (s.setVm T'.vm) m args below meth c T' locs (cells + 2) (slots + (n + 4)) → T'.heap = h' → Ext h h' → Z.Warmed39 (s.setVm T'.vm).vm → (s.setVm T'.vm).vm.findClass own = some m.cls → own_H Z EL s h0 T'.vm h' → CHr Z EL vm0 h T'.vm h' → Exa Z h' a "java/lang/String" → Fld Z h' a "java/lang/String" "coder" "B" (.int 0) → Fld Z h' a "java/lang/String" "value" "[B" (.ref b) → Arv Z h' b kk .byte z vs (.int 0) → (∀ x, Safe Z EL T'.vm h' x → x ≠ a ∧ x ≠ b) → own_Ends p e below Φ (T'.setTop (mkF m pc' Ls (.ref a :: rest)))) : own_Ends p e below Φ (T.setTop (mkF m pc Ls rest)) := by
  subst hp
  obtain ⟨hh, ⟨k0, hS, hk⟩, hC0⟩ := HH
  obtain ⟨a, T', h', k1, b, kk, X', e', E', hS', hk', hZ', hown', A', c', v', V', -, -, hC, -, hne, st⟩ := ldcCH X hx hZ hown w wS eT hS hk hEL hmem hC0.1 ht hz hl (g := mkF m pc Ls rest) rfl hd hn hbig hc hl'
  exact own_via st (k a T' h' b kk X' e' E' hZ' hown' ⟨hh, ⟨k1, hS', hk'⟩, hC0.trans hC⟩ hC A' c' v' V' hne)
theorem own_retDH (X : Stand p l e R (s.setVm vm0) m args below meth c T locs cells slots) (hx : p.tables.exec = Jvm.exec) (hZ : Z.Warmed39 (s.setVm vm0).vm) (eT : T.heap = h) (HH : own_H Z EL s h0 vm0 h) (hEL : EW Z a0 EL) (hlocks : meth.locks = false) (hret : meth.sig.returnType = some .double) {pc : Nat} {Ls : Array Slot} {z : UInt64} {rest : List Value} (hd : decode c.code pc = .ok (.dreturn, 1)) {Q : Option Value → Heap → List Loc → Prop} {kc ks : Nat} (hc : cells ≤ kc) (hs : slots ≤ ks) (hq : Q (some (.double z)) T.heap locs) :
    own_Ends p e below (own_PostH Z EL s Q kc ks) (T.setTop (mkF m pc Ls (.double z :: rest))) :=
  own_leaveH X hlocks (v := some (.double z)) (fun h => by rw [hret] at h; cases h) hZ eT HH hEL hc hs hq (fun fs hr => retOut X hx hret (w := .double z) rfl (Or.inr (Or.inr (Or.inl ⟨rfl, rfl, z, rfl⟩))) hd hr)
end OwnKitH
section OwnKitB
variable {p : Program} {l : Launch} {e : Env} {R : Room} {s : State} {m : MethodId} {args : Array Value} {below : List Frame} {meth : Method} {c : Code} {T : State} {locs : List Loc} {cells slots : Nat} {Z : State} {a0 : Array Value} {h : Heap} {Φ : Outcome → State → Prop}
theorem own_staticB (X : Stand p l e R s m args below meth c T locs cells slots) (hx : p.tables.exec = Jvm.exec) (hZ : Z.Warmed39 s.vm) {own : String} {index : Nat} {y : MethodName} {bytes : ByteArray} {maxL : Nat} {ret : Option FieldType} (hown : s.vm.findClass own = some m.cls) (w1 : (Jvm.Cond.methodLink own index y).before a0 Z = true) (w2 : (Jvm.Cond.static y).before a0 Z = true) (w3 : (Jvm.Cond.initialized y.cls).before a0 Z = true) (w4 : (Jvm.Cond.code y bytes maxL ret).before a0 Z = true) (hy : y.cls ≠ "java/lang/invoke/MethodHandle" ∧ y.cls ≠ "java/lang/invoke/VarHandle") {ce sl : Nat} (eT : T.heap = h) {W : Nat} (hc : cells + ce ≤ R.cells) (hs : slots + sl ≤ R.slots) {pc pc' : Nat} {Ls : Array Slot} (argsL rest : List Value) {st : List Value} (hsize : Ls.size = c.maxLocals) (Q : Option Value → Heap → List Loc → Prop) (hK : Back l R p e below s args y 3 W (fun P a' => a' = argsL.toArray ∧ P.U.heap = h ∧ P.cells + ce ≤ R.cells ∧ P.slots + sl ≤ R.slots) (fun P _ v B => ∃ L, Q v B.U.heap L ∧ B.locs = P.locs ++ L ∧ B.cells = P.cells + ce ∧ B.slots = P.slots + sl))
    {ps : List FieldType} {r : Option FieldType} (hpd : parseMethodDescriptor y.desc = some ⟨ps, r⟩) (hlen : argsL.length = ps.length) (hst : st = argsL.reverse ++ rest) (hW : (rest.map fun v => v.category).sum = W) (hd : decode c.code pc = .ok (.invokestatic index, 3)) (hp : pc + 3 = pc') (k : ∀ v T' L, Stand p l e R s m args below meth c T' (locs ++ L) (cells + ce) (slots + sl) → Q v T'.heap L → own_Ends p e below Φ (T'.setTop (mkF m pc' Ls (v.toList ++ rest)))) : own_Ends p e below Φ (T.setTop (mkF m pc Ls st)) := by
  subst hp
  obtain ⟨v, _, ⟨T', L', k', n'⟩, -, X', ⟨Lc, hQ, e1, e2, e3⟩, st'⟩ :=  Jvm.LawKit.callS X hx (y := y) hown (mvT hZ w1) (mvT hZ w2) (mvT hZ w3) (mvT hZ w4) hy hK (g := mkF m pc Ls st) rfl hsize (argsL := argsL) (rest := rest) (lenOf hpd hlen) hst (by rw [← hW]; show 2 * 0 + _ ≤ _; omega) hd (fun _ _ => ⟨rfl, eT, hc, hs⟩)
  dsimp only [Pt.U, Pt.locs, Pt.cells, Pt.slots] at X' e1 e2 e3 st' hQ
  subst e1 e2 e3
  exact own_via st' (k v T' Lc X' hQ)
theorem own_specialB (X : Stand p l e R s m args below meth c T locs cells slots) (hx : p.tables.exec = Jvm.exec) (hZ : Z.Warmed39 s.vm) {own : String} {index : Nat} {y : MethodName} {bytes : ByteArray} {maxL : Nat} (hy1 : y.name = "<init>") (hown : s.vm.findClass own = some m.cls) (w1 : (Jvm.Cond.methodLink own index y).before a0 Z = true) (w2 : (Jvm.Cond.instanceMethod y).before a0 Z = true) (w4 : (Jvm.Cond.code y bytes maxL none).before a0 Z = true) (hy : y.cls ≠ "java/lang/invoke/MethodHandle" ∧ y.cls ≠ "java/lang/invoke/VarHandle") {ce sl : Nat} (eT : T.heap = h) {W : Nat} (hc : cells + ce ≤ R.cells) (hs : slots + sl ≤ R.slots) {pc pc' : Nat} {Ls : Array Slot} (argsL rest : List Value) {st : List Value} (hsize : Ls.size = c.maxLocals) {a : Addr} (Q : Option Value → Heap → List Loc → Prop) (hK : Back l R p e below s args y 3 W (fun P a' => a' = (.ref a :: argsL).toArray ∧ P.U.heap = h ∧ P.cells + ce ≤ R.cells ∧ P.slots + sl ≤ R.slots) (fun P _ v B => ∃ L, Q v B.U.heap L ∧ B.locs = P.locs ++ L ∧ B.cells = P.cells + ce ∧ B.slots = P.slots + sl))
    {ps : List FieldType} {r : Option FieldType} (hpd : parseMethodDescriptor y.desc = some ⟨ps, r⟩) (hlen : argsL.length = ps.length) (hst : st = argsL.reverse ++ .ref a :: rest) (hW : (rest.map fun v => v.category).sum = W) (hd : decode c.code pc = .ok (.invokespecial index, 3)) (hp : pc + 3 = pc') (k : ∀ v T' L, Stand p l e R s m args below meth c T' (locs ++ L) (cells + ce) (slots + sl) → Q v T'.heap L → own_Ends p e below Φ (T'.setTop (mkF m pc' Ls (v.toList ++ rest)))) : own_Ends p e below Φ (T.setTop (mkF m pc Ls st)) := by
  subst hp
  obtain ⟨v, _, ⟨T', L', k', n'⟩, -, X', ⟨Lc, hQ, e1, e2, e3⟩, st'⟩ :=  X.specialBack hx (y := y) hy1 hown (mvT hZ w1) (mvT hZ w2) (mvT hZ w4) hy hK (g := mkF m pc Ls st) rfl hsize (Steps.refl _) (a := a) (argsL := argsL) (rest := rest) (lenOf hpd hlen) hst (by rw [← hW]; show 2 * 0 + _ ≤ _; omega) hd (fun _ _ => ⟨rfl, eT, hc, hs⟩)
  dsimp only [Pt.U, Pt.locs, Pt.cells, Pt.slots] at X' e1 e2 e3 st' hQ
  subst e1 e2 e3
  exact own_thru st' (k v T' Lc X' hQ)
theorem own_virtualB (X : Stand p l e R s m args below meth c T locs cells slots) (hx : p.tables.exec = Jvm.exec) (hZ : Z.Warmed39 s.vm) {own C : String} {index : Nat} {y z : MethodName} (hown : s.vm.findClass own = some m.cls) (w1 : (Jvm.Cond.methodLink own index y).before a0 Z = true) (w2 : (Jvm.Cond.declares y).before a0 Z = true) (hnf : NotFace s y) (w3 : (Jvm.Cond.selects C y z).before a0 Z = true) (w4 : (Jvm.Cond.instanceMethod z).before a0 Z = true) (hy : y.cls ≠ "java/lang/invoke/MethodHandle" ∧ y.cls ≠ "java/lang/invoke/VarHandle") {ce sl : Nat} (eT : T.heap = h) {W : Nat} (hc : cells + ce ≤ R.cells) (hs : slots + sl ≤ R.slots) {pc pc' : Nat} {Ls : Array Slot} (argsL rest : List Value) {st : List Value} (hsize : Ls.size = c.maxLocals) {a : Addr} (E : Exa Z h a C) (Q : Option Value → Heap → List Loc → Prop) (hK : Back l R p e below s args z 3 W (fun P a' => a' = (.ref a :: argsL).toArray ∧ P.U.heap = h ∧ P.cells + ce ≤ R.cells ∧ P.slots + sl ≤ R.slots) (fun P _ v B => ∃ L, Q v B.U.heap L ∧ B.locs = P.locs ++ L ∧ B.cells = P.cells + ce ∧ B.slots = P.slots + sl))
    {ps : List FieldType} {r : Option FieldType} (hpd : parseMethodDescriptor y.desc = some ⟨ps, r⟩) (hlen : argsL.length = ps.length) (hst : st = argsL.reverse ++ .ref a :: rest) (hW : (rest.map fun v => v.category).sum = W) (hd : decode c.code pc = .ok (.invokevirtual index, 3)) (hp : pc + 3 = pc') (k : ∀ v T' L, Stand p l e R s m args below meth c T' (locs ++ L) (cells + ce) (slots + sl) → Q v T'.heap L → own_Ends p e below Φ (T'.setTop (mkF m pc' Ls (v.toList ++ rest)))) : own_Ends p e below Φ (T.setTop (mkF m pc Ls st)) := by
  subst hp
  obtain ⟨cq, kq, q1, q2, q3⟩ := isOf hZ eT E
  obtain ⟨v, _, ⟨T', L', k', n'⟩, -, X', ⟨Lc, hQ, e1, e2, e3⟩, st'⟩ :=  X.virtualBack hx (y := y) (z := z) hown (mvT hZ w1) (mvT hZ w2) hnf (mvT hZ w3) (mvT hZ w4) hy hK q1 q3 (g := mkF m pc Ls st) rfl hsize (Steps.refl _) (argsL := argsL) (rest := rest) (lenOf hpd hlen) hst (by rw [← hW]; show 2 * 0 + _ ≤ _; omega) hd (fun _ _ => ⟨rfl, eT, hc, hs⟩)
  dsimp only [Pt.U, Pt.locs, Pt.cells, Pt.slots] at X' e1 e2 e3 st' hQ
  subst e1 e2 e3
  exact own_thru st' (k v T' Lc X' hQ)
theorem own_iface (X : Stand p l e R s m args below meth c T locs cells slots) (hx : p.tables.exec = Jvm.exec) (hZ : Z.Warmed39 s.vm) {own C : String} {index count : Nat} {xi y : MethodName} {bytes : ByteArray} {maxL : Nat} {ret : Option FieldType} {rm : Room} {Q : Option Value → Heap → List Loc → Prop} (hown : s.vm.findClass own = some m.cls) (w1 : (Jvm.Cond.methodLink own index xi).before a0 Z = true) (w2 : (Jvm.Cond.declares xi).before a0 Z = true) (wf : (Jvm.Cond.interfaceMethod xi.cls xi.cls xi.name xi.desc).before args s = true) (w3 : (Jvm.Cond.selects C xi y).before a0 Z = true) (w4 : (Jvm.Cond.instanceMethod y).before a0 Z = true) (wp : (Jvm.Cond.publicMethod y).before a0 Z = true) (wu : (Jvm.Cond.unhidden C xi.name xi.desc).before a0 Z = true) (wc : (Jvm.Cond.castable C xi.cls).before a0 Z = true) (w5 : (Jvm.Cond.initialized y.cls).before a0 Z = true) (w6 : (Jvm.Cond.code y bytes maxL ret).before a0 Z = true) (hy : xi.cls ≠ "java/lang/invoke/MethodHandle" ∧ xi.cls ≠ "java/lang/invoke/VarHandle") (eT : T.heap = h) (hf : rm.frames + 1 ≤ R.frames) {W : Nat} (hl : W + (maxL + 11) + rm.locals ≤ R.locals) (hc : cells + rm.cells ≤ R.cells) (hs : slots + rm.slots ≤ R.slots) {pc pc' : Nat} {Ls : Array Slot} (argsL rest : List Value) {st : List Value} (hsize : Ls.size = c.maxLocals) {a : Addr} (E : Exa Z h a C) (hM : own_Met l y bytes maxL ret rm Z (.ref a :: argsL).toArray h Q)
    {ps : List FieldType} {r : Option FieldType} (hpd : parseMethodDescriptor xi.desc = some ⟨ps, r⟩) (hlen : argsL.length = ps.length) (hst : st = argsL.reverse ++ .ref a :: rest) (hW : (rest.map fun v => v.category).sum = W) (hd : decode c.code pc = .ok (.invokeinterface index count, 5)) (hp : pc + 5 = pc') (k : ∀ v T' L, Stand p l e R s m args below meth c T' (locs ++ L) (cells + rm.cells) (slots + rm.slots) → Q v T'.heap L → own_Ends p e below Φ (T'.setTop (mkF m pc' Ls (v.toList ++ rest)))) : own_Ends p e below Φ (T.setTop (mkF m pc Ls st)) := by
  subst hp
  obtain ⟨cq, kq, q1, q2, q3⟩ := isOf hZ eT E
  obtain ⟨v, _, ⟨T', L', k', n'⟩, -, X', ⟨Lc, hQ, e1, e2, e3⟩, st'⟩ :=  X.interfaceBack hx (xi := xi) (y := y) hown (mvT hZ w1) (mvT hZ w2) wf (mvT hZ w3) (mvT hZ w4) (mvT hZ wp) (mvT hZ wu) (mvT hZ wc) hy (backOf (W := W) (hM []) hZ w6 w5 hf hl) q1 q2 q3 (g := mkF m pc Ls st) rfl hsize (Steps.refl _) (argsL := argsL) (rest := rest) (lenOf hpd hlen) hst (by rw [← hW]; show 2 * 0 + _ ≤ _; omega) hd (fun _ _ => ⟨rfl, eT, hc, hs⟩)
  dsimp only [Pt.U, Pt.locs, Pt.cells, Pt.slots] at X' e1 e2 e3 st' hQ
  subst e1 e2 e3
  exact own_thru st' (k v T' Lc X' hQ)
theorem own_insK {h' : Heap} {a : Addr} {C : String} {b : Bool} {ws : List Addr} (F : Ins Z h a C b) (K : Keep h h' ws) : Ins Z h' a C b := by
  obtain ⟨cell, cT, h1, h2, h3⟩ := F
  obtain ⟨c', q, r1, r2, -⟩ := K.2.2 a cell h1
  exact ⟨c', cT, q, h2, by rw [r1, r2]; exact h3⟩
end OwnKitB
section OwnKitA
variable {p : Program} {l : Launch} {e : Env} {R : Room} {s : State} {m : MethodId} {args : Array Value} {below : List Frame} {meth : Method} {c : Code} {T : State} {locs : List Loc} {cells slots : Nat} {Z : State} {a0 : Array Value} {h : Heap} {Φ : Outcome → State → Prop}
theorem own_newP (X : Stand p l e R s m args below meth c T locs cells slots) (hx : p.tables.exec = Jvm.exec) (hZ : Z.Warmed39 s.vm) {aty : ArrayType} (w : (Jvm.Cond.arrayClass (newarray.typeOf aty)).before a0 Z = true) (eT : T.heap = h) {pc pc' : Nat} {Ls : Array Slot} {rest : List Value} {n : Int32} (hd : decode c.code pc = .ok (.newarray aty, 2)) (hn : ¬ n < 0) (cap : Nat) (hcap : n.toNatClampNeg ≤ cap) (hb : cap * 8 ≤ 536870912) (hc : cells + 1 ≤ R.cells) (hl : slots + cap ≤ R.slots) (hp : pc + 2 = pc')
    (k : ∀ T' h' b kk, Stand p l e R s m args below meth c T' locs (cells + 1) (slots + cap) → T'.heap = h' → b = h.size → Ext h h' → Arv Z h' b kk (newarray.typeOf aty) n [] (defaultValue (newarray.typeOf aty)) → own_Ends p e below Φ (T'.setTop (mkF m pc' Ls (.ref b :: rest)))) : own_Ends p e below Φ (T.setTop (mkF m pc Ls (.int n :: rest))) := by
  subst hp; obtain ⟨T', h', cA, X', e', E', A', st⟩ := newP X hx hZ w eT (g := mkF m pc Ls (.int n :: rest)) rfl hd rfl hn hcap hb hc hl
  exact own_via st (k T' h' _ cA X' e' rfl E' (Arv.new A' hn))
theorem own_stC (X : Stand p l e R s m args below meth c T locs cells slots) (hx : p.tables.exec = Jvm.exec) (hZ : Z.Warmed39 s.vm) (eT : T.heap = h) {a : Addr} {kk : ClassId} {z : Int32} {vs : List Value} {dv : Value} (A : Arv Z h a kk .char z vs dv) {j : Int32} {x : Int32} (hj : ¬ j < 0 ∧ j < z) (i : Nat) (hi : j.toNatClampNeg = i) (hlen : i < vs.length) (hn : nar .char x = x) {n0 : Nat} (N : Fr n0 locs) (g : n0 ≤ a) {pc pc' : Nat} {Ls : Array Slot} {rest : List Value} (hd : decode c.code pc = .ok (.castore, 1)) (hp : pc + 1 = pc')
    (k : ∀ T' h', Stand p l e R s m args below meth c T' (locs ++ [⟨a, j.toNatClampNeg⟩]) cells slots → T'.heap = h' → Wr h h' a j.toNatClampNeg (.int x) → Fr n0 (locs ++ [⟨a, j.toNatClampNeg⟩]) → Arv Z h' a kk .char z (vs.set i (.int x)) dv → own_Ends p e below Φ (T'.setTop (mkF m pc' Ls rest))) : own_Ends p e below Φ (T.setTop (mkF m pc Ls (.int x :: .int j :: .ref a :: rest))) := by
  subst hp; obtain ⟨cl, Ar, q, S, Nn, H, G⟩ := A
  obtain ⟨T', h', X', e', W', st⟩ := Jvm.RoadKit.stC X hx hZ eT Ar (j := j) (x := x) (inb_of S hj) (g := mkF m pc Ls (.int x :: .int j :: .ref a :: rest)) rfl rfl hd
  have W' : Wr h h' a j.toNatClampNeg (.int (nar .char x)) := W'
  have hf := fits_nar_char x
  rw [hn] at W' hf
  exact own_via st (k T' h' X' e' W' (Fr.snoc X' N g) (Arv.set Ar q S Nn H G hf W' i hi hlen))
theorem own_stI (X : Stand p l e R s m args below meth c T locs cells slots) (hx : p.tables.exec = Jvm.exec) (hZ : Z.Warmed39 s.vm) (eT : T.heap = h) {a : Addr} {kk : ClassId} {z : Int32} {vs : List Value} {dv : Value} (A : Arv Z h a kk .int z vs dv) {j : Int32} {x : Int32} (hj : ¬ j < 0 ∧ j < z) (i : Nat) (hi : j.toNatClampNeg = i) (hlen : i < vs.length) {n0 : Nat} (N : Fr n0 locs) (g : n0 ≤ a) {pc pc' : Nat} {Ls : Array Slot} {rest : List Value} (hd : decode c.code pc = .ok (.iastore, 1)) (hp : pc + 1 = pc')
    (k : ∀ T' h', Stand p l e R s m args below meth c T' (locs ++ [⟨a, j.toNatClampNeg⟩]) cells slots → T'.heap = h' → Wr h h' a j.toNatClampNeg (.int x) → Fr n0 (locs ++ [⟨a, j.toNatClampNeg⟩]) → Arv Z h' a kk .int z (vs.set i (.int x)) dv → own_Ends p e below Φ (T'.setTop (mkF m pc' Ls rest))) : own_Ends p e below Φ (T.setTop (mkF m pc Ls (.int x :: .int j :: .ref a :: rest))) := by
  subst hp; obtain ⟨cl, Ar, q, S, Nn, H, G⟩ := A
  obtain ⟨T', h', X', e', W', st⟩ := Jvm.RoadKit.stI X hx hZ eT Ar (j := j) (x := x) (inb_of S hj) (g := mkF m pc Ls (.int x :: .int j :: .ref a :: rest)) rfl rfl hd
  skip
  exact own_via st (k T' h' X' e' W' (Fr.snoc X' N g) (Arv.set Ar q S Nn H G rfl W' i hi hlen))
theorem own_stB (X : Stand p l e R s m args below meth c T locs cells slots) (hx : p.tables.exec = Jvm.exec) (hZ : Z.Warmed39 s.vm) (eT : T.heap = h) {a : Addr} {kk : ClassId} {z : Int32} {vs : List Value} {dv : Value} (A : Arv Z h a kk .byte z vs dv) {j : Int32} {x : Int32} (hj : ¬ j < 0 ∧ j < z) (i : Nat) (hi : j.toNatClampNeg = i) (hlen : i < vs.length) (hn : x.toInt8.toInt32 = x) {n0 : Nat} (N : Fr n0 locs) (g : n0 ≤ a) {pc pc' : Nat} {Ls : Array Slot} {rest : List Value} (hd : decode c.code pc = .ok (.bastore, 1)) (hp : pc + 1 = pc')
    (k : ∀ T' h', Stand p l e R s m args below meth c T' (locs ++ [⟨a, j.toNatClampNeg⟩]) cells slots → T'.heap = h' → Wr h h' a j.toNatClampNeg (.int x) → Fr n0 (locs ++ [⟨a, j.toNatClampNeg⟩]) → Arv Z h' a kk .byte z (vs.set i (.int x)) dv → own_Ends p e below Φ (T'.setTop (mkF m pc' Ls rest))) : own_Ends p e below Φ (T.setTop (mkF m pc Ls (.int x :: .int j :: .ref a :: rest))) := by
  subst hp; obtain ⟨cl, Ar, q, S, Nn, H, G⟩ := A
  obtain ⟨T', h', X', e', W', st⟩ := Jvm.RoadKit.stB X hx hZ eT Ar (j := j) (x := x) (inb_of S hj) (g := mkF m pc Ls (.int x :: .int j :: .ref a :: rest)) rfl rfl hd
  have W' : Wr h h' a j.toNatClampNeg (.int x.toInt8.toInt32) := W'
  have hf := fits_nar_byte x
  rw [hn] at W' hf
  exact own_via st (k T' h' X' e' W' (Fr.snoc X' N g) (Arv.set Ar q S Nn H G hf W' i hi hlen))
theorem own_stR (X : Stand p l e R s m args below meth c T locs cells slots) (hx : p.tables.exec = Jvm.exec) (hZ : Z.Warmed39 s.vm) (eT : T.heap = h) {a : Addr} {kk : ClassId} {z : Int32} {ty : FieldType} {vs : List Value} {dv : Value} (A : Arv Z h a kk ty z vs dv) (hty : ty.isReference = true) {j : Int32} {v : Value} (hv : fits ty v = true) (F : Sto Z h a v) (hj : ¬ j < 0 ∧ j < z) (i : Nat) (hi : j.toNatClampNeg = i) (hlen : i < vs.length) {n0 : Nat} (N : Fr n0 locs) (g : n0 ≤ a) {pc pc' : Nat} {Ls : Array Slot} {rest : List Value} (hd : decode c.code pc = .ok (.aastore, 1)) (hp : pc + 1 = pc')
    (k : ∀ T' h', Stand p l e R s m args below meth c T' (locs ++ [⟨a, j.toNatClampNeg⟩]) cells slots → T'.heap = h' → Wr h h' a j.toNatClampNeg v → Fr n0 (locs ++ [⟨a, j.toNatClampNeg⟩]) → Arv Z h' a kk ty z (vs.set i v) dv → own_Ends p e below Φ (T'.setTop (mkF m pc' Ls rest))) : own_Ends p e below Φ (T.setTop (mkF m pc Ls (v :: .int j :: .ref a :: rest))) := by
  subst hp; obtain ⟨cl, Ar, q, S, Nn, H, G⟩ := A
  obtain ⟨T', h', X', e', W', st⟩ := Jvm.RoadKit.stR X hx hZ eT Ar (j := j) (inb_of S hj) hty F (g := mkF m pc Ls (v :: .int j :: .ref a :: rest)) rfl rfl hd
  exact own_via st (k T' h' X' e' W' (Fr.snoc X' N g) (Arv.set Ar q S Nn H G hv W' i hi hlen))
theorem own_newR (X : Stand p l e R s m args below meth c T locs cells slots) (hx : p.tables.exec = Jvm.exec) (hZ : Z.Warmed39 s.vm) {own C : String} {index : Nat} (hown : s.vm.findClass own = some m.cls) (w1 : (Jvm.Cond.classLink own index C).before a0 Z = true) (w2 : (Jvm.Cond.arrayOver (.object C)).before a0 Z = true) (eT : T.heap = h) {pc pc' : Nat} {Ls : Array Slot} {rest : List Value} {n : Int32} (hd : decode c.code pc = .ok (.anewarray index, 3)) (hn : ¬ n < 0) (cap : Nat) (hcap : n.toNatClampNeg ≤ cap) (hb : cap * 8 ≤ 536870912) (hc : cells + 1 ≤ R.cells) (hl : slots + cap ≤ R.slots) (hp : pc + 3 = pc')
    (k : ∀ T' h' b kk, Stand p l e R s m args below meth c T' locs (cells + 1) (slots + cap) → T'.heap = h' → b = h.size → Ext h h' → Arv Z h' b kk (.object C) n [] .null → Ovr Z kk C → own_Ends p e below Φ (T'.setTop (mkF m pc' Ls (.ref b :: rest)))) : own_Ends p e below Φ (T.setTop (mkF m pc Ls (.int n :: rest))) := by
  subst hp; obtain ⟨T', h', cA, X', e', E', A', O', st⟩ := newR X hx hZ hown w1 w2 eT (g := mkF m pc Ls (.int n :: rest)) rfl hd rfl hn hcap hb hc hl
  exact own_via st (k T' h' _ cA X' e' rfl E' (Arv.new A' hn) O')
theorem own_arraylength (X : Stand p l e R s m args below meth c T locs cells slots) (hx : p.tables.exec = Jvm.exec) (hZ : Z.Warmed39 s.vm) (eT : T.heap = h) {a : Addr} {kk : ClassId} {z : Int32} {ty : FieldType} {vs : List Value} {dv : Value} (A : Arv Z h a kk ty z vs dv) {pc pc' : Nat} {Ls : Array Slot} {rest : List Value} (hd : decode c.code pc = .ok (.arraylength, 1)) (hp : pc + 1 = pc') (k : own_Ends p e below Φ (T.setTop (mkF m pc' Ls (.int z :: rest)))) : own_Ends p e below Φ (T.setTop (mkF m pc Ls (.ref a :: rest))) := by
  subst hp; obtain ⟨cl, Ar, q, S, Nn, H, G⟩ := A
  refine own_via (X.arraylength hx (by rw [eT]; exact Ar.1) (State.isArrayOf_alike hZ.alike Ar.2.1) (g := mkF m pc Ls (.ref a :: rest)) rfl rfl hd) ?_
  rw [len_of S Nn]; exact k
theorem own_iaload (X : Stand p l e R s m args below meth c T locs cells slots) (hx : p.tables.exec = Jvm.exec) (hZ : Z.Warmed39 s.vm) (eT : T.heap = h) {a : Addr} {kk : ClassId} {z : Int32} {vs : List Value} {dv : Value} (A : Arv Z h a kk .int z vs dv) {j : Int32} {x : Int32} (hj : ¬ j < 0 ∧ j < z) (hv : vs.getD j.toNatClampNeg dv = .int x) {pc pc' : Nat} {Ls : Array Slot} {rest : List Value} (hd : decode c.code pc = .ok (.iaload, 1)) (hp : pc + 1 = pc') (k : own_Ends p e below Φ (T.setTop (mkF m pc' Ls (.int x :: rest)))) : own_Ends p e below Φ (T.setTop (mkF m pc Ls (.int j :: .ref a :: rest))) := by
  subst hp; obtain ⟨cl, Ar, q, S, Nn, H, G⟩ := A
  exact own_via (X.iaload hx (j := j) (v := .int x) (by rw [eT]; exact Ar.1) (State.isArrayOf_alike hZ.alike Ar.2.1) Ar.2.2 (inb_of S hj) (H.at (inb_of S hj) hv) (g := mkF m pc Ls (.int j :: .ref a :: rest)) rfl rfl hd) k
theorem own_caload (X : Stand p l e R s m args below meth c T locs cells slots) (hx : p.tables.exec = Jvm.exec) (hZ : Z.Warmed39 s.vm) (eT : T.heap = h) {a : Addr} {kk : ClassId} {z : Int32} {vs : List Value} {dv : Value} (A : Arv Z h a kk .char z vs dv) {j : Int32} {x : Int32} (hj : ¬ j < 0 ∧ j < z) (hv : vs.getD j.toNatClampNeg dv = .int x) {pc pc' : Nat} {Ls : Array Slot} {rest : List Value} (hd : decode c.code pc = .ok (.caload, 1)) (hp : pc + 1 = pc') (k : own_Ends p e below Φ (T.setTop (mkF m pc' Ls (.int x :: rest)))) : own_Ends p e below Φ (T.setTop (mkF m pc Ls (.int j :: .ref a :: rest))) := by
  subst hp; obtain ⟨cl, Ar, q, S, Nn, H, G⟩ := A
  exact own_via (X.caload hx (j := j) (v := .int x) (by rw [eT]; exact Ar.1) (State.isArrayOf_alike hZ.alike Ar.2.1) Ar.2.2 (inb_of S hj) (H.at (inb_of S hj) hv) (g := mkF m pc Ls (.int j :: .ref a :: rest)) rfl rfl hd) k
theorem own_baloadBytes (X : Stand p l e R s m args below meth c T locs cells slots) (hx : p.tables.exec = Jvm.exec) (hZ : Z.Warmed39 s.vm) (eT : T.heap = h) {a : Addr} {kk : ClassId} {z : Int32} {vs : List Value} {dv : Value} (A : Arv Z h a kk .byte z vs dv) {j : Int32} {x : Int32} (hj : ¬ j < 0 ∧ j < z) (hv : vs.getD j.toNatClampNeg dv = .int x) {pc pc' : Nat} {Ls : Array Slot} {rest : List Value} (hd : decode c.code pc = .ok (.baload, 1)) (hp : pc + 1 = pc') (k : own_Ends p e below Φ (T.setTop (mkF m pc' Ls (.int x :: rest)))) : own_Ends p e below Φ (T.setTop (mkF m pc Ls (.int j :: .ref a :: rest))) := by
  subst hp; obtain ⟨cl, Ar, q, S, Nn, H, G⟩ := A
  exact own_via (X.baloadBytes hx (j := j) (v := .int x) (by rw [eT]; exact Ar.1) (State.isArrayOf_alike hZ.alike Ar.2.1) Ar.2.2 (inb_of S hj) (H.at (inb_of S hj) hv) (g := mkF m pc Ls (.int j :: .ref a :: rest)) rfl rfl hd) k
theorem own_aaload (X : Stand p l e R s m args below meth c T locs cells slots) (hx : p.tables.exec = Jvm.exec) (hZ : Z.Warmed39 s.vm) (eT : T.heap = h) {a : Addr} {kk : ClassId} {z : Int32} {ty : FieldType} (hty : ty.isReference = true) {vs : List Value} {dv : Value} (A : Arv Z h a kk ty z vs dv) {j : Int32} {v : Value} (hj : ¬ j < 0 ∧ j < z) (hv : vs.getD j.toNatClampNeg dv = v) {pc pc' : Nat} {Ls : Array Slot} {rest : List Value} (hd : decode c.code pc = .ok (.aaload, 1)) (hp : pc + 1 = pc') (k : own_Ends p e below Φ (T.setTop (mkF m pc' Ls (v :: rest)))) : own_Ends p e below Φ (T.setTop (mkF m pc Ls (.int j :: .ref a :: rest))) := by
  subst hp; obtain ⟨cl, Ar, q, S, Nn, H, G⟩ := A
  exact own_via (X.aaload hx (j := j) (v := v) (by rw [eT]; exact Ar.1) (State.isArrayOf_alike hZ.alike Ar.2.1) hty Ar.2.2 (inb_of S hj) (H.at (inb_of S hj) hv) (g := mkF m pc Ls (.int j :: .ref a :: rest)) rfl rfl hd) k
theorem own_castY (X : Stand p l e R s m args below meth c T locs cells slots) (hx : p.tables.exec = Jvm.exec) (hZ : Z.Warmed39 s.vm) {own C : String} {index : Nat} (hown : s.vm.findClass own = some m.cls) (w : (Jvm.Cond.classLink own index C).before a0 Z = true) (eT : T.heap = h) {a : Addr} (F : Ins Z h a C true) {pc pc' : Nat} {Ls : Array Slot} {rest : List Value} (hd : decode c.code pc = .ok (.checkcast index, 3)) (hp : pc + 3 = pc') (k : ∀ T', Stand p l e R s m args below meth c T' locs cells slots → T'.heap = h → own_Ends p e below Φ (T'.setTop (mkF m pc' Ls (.ref a :: rest)))) : own_Ends p e below Φ (T.setTop (mkF m pc Ls (.ref a :: rest))) := by
  subst hp; obtain ⟨T', X', e', st⟩ := castY X hx hZ hown w eT F (g := mkF m pc Ls (.ref a :: rest)) rfl rfl hd
  exact own_via st (k T' X' e')
theorem own_castN (X : Stand p l e R s m args below meth c T locs cells slots) (hx : p.tables.exec = Jvm.exec) {index : Nat} {pc pc' : Nat} {Ls : Array Slot} {rest : List Value} (hd : decode c.code pc = .ok (.checkcast index, 3)) (hp : pc + 3 = pc') (k : own_Ends p e below Φ (T.setTop (mkF m pc' Ls (.null :: rest)))) : own_Ends p e below Φ (T.setTop (mkF m pc Ls (.null :: rest))) := by
  subst hp; exact own_via (fun _ q => X.checkcastNull hx (g := mkF m pc Ls (.null :: rest)) rfl rfl hd _ q) k
theorem own_instY (X : Stand p l e R s m args below meth c T locs cells slots) (hx : p.tables.exec = Jvm.exec) (hZ : Z.Warmed39 s.vm) {own C : String} {index : Nat} (hown : s.vm.findClass own = some m.cls) (w : (Jvm.Cond.classLink own index C).before a0 Z = true) (eT : T.heap = h) {a : Addr} (F : Ins Z h a C true) {pc pc' : Nat} {Ls : Array Slot} {rest : List Value} (hd : decode c.code pc = .ok (.instanceof index, 3)) (hp : pc + 3 = pc') (k : ∀ T', Stand p l e R s m args below meth c T' locs cells slots → T'.heap = h → own_Ends p e below Φ (T'.setTop (mkF m pc' Ls (.int 1 :: rest)))) : own_Ends p e below Φ (T.setTop (mkF m pc Ls (.ref a :: rest))) := by
  subst hp; obtain ⟨T', X', e', st⟩ := instY X hx hZ hown w eT F (g := mkF m pc Ls (.ref a :: rest)) rfl rfl hd
  exact own_via st (k T' X' e')
theorem own_instNull (X : Stand p l e R s m args below meth c T locs cells slots) (hx : p.tables.exec = Jvm.exec) {index : Nat} {pc pc' : Nat} {Ls : Array Slot} {rest : List Value} (hd : decode c.code pc = .ok (.instanceof index, 3)) (hp : pc + 3 = pc') (k : own_Ends p e below Φ (T.setTop (mkF m pc' Ls (.int 0 :: rest)))) : own_Ends p e below Φ (T.setTop (mkF m pc Ls (.null :: rest))) := by
  subst hp; exact own_via (fun _ q => X.instanceofNull hx (g := mkF m pc Ls (.null :: rest)) rfl rfl hd _ q) k
theorem own_instN (X : Stand p l e R s m args below meth c T locs cells slots) (hx : p.tables.exec = Jvm.exec) (hZ : Z.Warmed39 s.vm) {own K C : String} {index : Nat} (hown : s.vm.findClass own = some m.cls) (w : (Jvm.Cond.classLink own index K).before a0 Z = true) (eT : T.heap = h) {a : Addr} (E : Exa Z h a C) (F : ∃ c t, Z.vm.findClass C = some c ∧ Z.vm.findClass K = some t ∧ Z.vm.assignable c t = false) {pc pc' : Nat} {Ls : Array Slot} {rest : List Value} (hd : decode c.code pc = .ok (.instanceof index, 3)) (hp : pc + 3 = pc') (k : ∀ T', Stand p l e R s m args below meth c T' locs cells slots → T'.heap = h → own_Ends p e below Φ (T'.setTop (mkF m pc' Ls (.int 0 :: rest)))) : own_Ends p e below Φ (T.setTop (mkF m pc Ls (.ref a :: rest))) := by
  subst hp; obtain ⟨T', X', e', st⟩ := instNo X hx hZ hown w eT E F (g := mkF m pc Ls (.ref a :: rest)) rfl rfl hd
  exact own_via st (k T' X' e')
theorem own_sto {a y : Addr} {kk : ClassId} {ty : FieldType} {z : Int32} {vs : List Value} {dv : Value} {C : String} (A : Arv Z h a kk ty z vs dv) (O : Ovr Z kk C) (I : Ins Z h y C true) : Sto Z h a (.ref y) := by
  obtain ⟨cl, Ar, q, -⟩ := A
  exact Sto.ofV Ar q O I
theorem own_ldcDouble (X : Stand p l e R s m args below meth c T locs cells slots) (hx : p.tables.exec = Jvm.exec) (hZ : Z.Warmed39 s.vm) {own : String} {index : Nat} {v : UInt64} (hown : s.vm.findClass own = some m.cls) (w : (Jvm.Cond.constantDouble own index v).before a0 Z = true) {pc pc' : Nat} {Ls : Array Slot} {rest : List Value} (hd : decode c.code pc = .ok (.ldc2_w index, 3)) (hp : pc + 3 = pc') (h : own_Ends p e below Φ (T.setTop (mkF m pc' Ls (.double v :: rest)))) : own_Ends p e below Φ (T.setTop (mkF m pc Ls rest)) := by
  subst hp; exact own_via (X.ldc2DoubleC hx hown (mvT hZ w) (g := mkF m pc Ls rest) rfl hd) h
theorem own_dcmp (X : Stand p l e R s m args below meth c T locs cells slots) (hx : p.tables.exec = Jvm.exec) {pc pc' : Nat} {Ls : Array Slot} {rest : List Value} {o : CmpOp} {x y : UInt64} (v : Int32) (hd : decode c.code pc = .ok (.dcmp o, 1)) (hv : cmpValue (FP.dcmp x y) o = v) (hp : pc + 1 = pc') (h : own_Ends p e below Φ (T.setTop (mkF m pc' Ls (.int v :: rest)))) : own_Ends p e below Φ (T.setTop (mkF m pc Ls (.double y :: .double x :: rest))) := by
  subst hp; exact own_via (fun _ k => XS.dcmpS X.here hx (g := mkF m pc Ls (.double y :: .double x :: rest)) rfl hd rfl hv k) h
theorem own_dload (X : Stand p l e R s m args below meth c T locs cells slots) (hx : p.tables.exec = Jvm.exec) {pc pc' : Nat} {Ls : Array Slot} {rest : List Value} {k : Nat} {v : UInt64} (hd : decode c.code pc = .ok (.dload k, 2)) (hl : Ls[k]? = some (.val (.double v))) (hp : pc + 2 = pc') (h : own_Ends p e below Φ (T.setTop (mkF m pc' Ls (.double v :: rest)))) : own_Ends p e below Φ (T.setTop (mkF m pc Ls rest)) := by
  subst hp; exact own_via (fun _ k => XS.dload X.here hx (g := mkF m pc Ls rest) rfl hd hl k) h
theorem own_dloadN (X : Stand p l e R s m args below meth c T locs cells slots) (hx : p.tables.exec = Jvm.exec) {pc pc' : Nat} {Ls : Array Slot} {rest : List Value} {k : Fin 4} {v : UInt64} (hd : decode c.code pc = .ok (.dload_n k, 1)) (hl : Ls[k.val]? = some (.val (.double v))) (hp : pc + 1 = pc') (h : own_Ends p e below Φ (T.setTop (mkF m pc' Ls (.double v :: rest)))) : own_Ends p e below Φ (T.setTop (mkF m pc Ls rest)) := by
  subst hp; exact own_via (fun _ k => XS.dloadN X.here hx (g := mkF m pc Ls rest) rfl hd hl k) h
theorem own_dstore (X : Stand p l e R s m args below meth c T locs cells slots) (hx : p.tables.exec = Jvm.exec) {pc pc' : Nat} {Ls : Array Slot} {rest : List Value} {k : Nat} {v : UInt64} (Ls' : Array Slot) (hd : decode c.code pc = .ok (.dstore k, 2)) (hl : storeLocals Ls k (.double v) = some Ls') (hp : pc + 2 = pc') (h : own_Ends p e below Φ (T.setTop (mkF m pc' Ls' rest))) : own_Ends p e below Φ (T.setTop (mkF m pc Ls (.double v :: rest))) := by
  subst hp; exact own_via (fun _ k => XS.dstore X.here hx (g := mkF m pc Ls (.double v :: rest)) rfl hd rfl hl k) h
theorem own_dstoreN (X : Stand p l e R s m args below meth c T locs cells slots) (hx : p.tables.exec = Jvm.exec) {pc pc' : Nat} {Ls : Array Slot} {rest : List Value} {k : Fin 4} {v : UInt64} (Ls' : Array Slot) (hd : decode c.code pc = .ok (.dstore_n k, 1)) (hl : storeLocals Ls k.val (.double v) = some Ls') (hp : pc + 1 = pc') (h : own_Ends p e below Φ (T.setTop (mkF m pc' Ls' rest))) : own_Ends p e below Φ (T.setTop (mkF m pc Ls (.double v :: rest))) := by
  subst hp; exact own_via (fun _ k => XS.dstoreN X.here hx (g := mkF m pc Ls (.double v :: rest)) rfl hd rfl hl k) h
theorem own_ldcLong (X : Stand p l e R s m args below meth c T locs cells slots) (hx : p.tables.exec = Jvm.exec) (hZ : Z.Warmed39 s.vm) {own : String} {index : Nat} {v : Int64} (hown : s.vm.findClass own = some m.cls) (w : (Jvm.Cond.constantLong own index v).before a0 Z = true) {pc pc' : Nat} {Ls : Array Slot} {rest : List Value} (hd : decode c.code pc = .ok (.ldc2_w index, 3)) (hp : pc + 3 = pc') (h : own_Ends p e below Φ (T.setTop (mkF m pc' Ls (.long v :: rest)))) : own_Ends p e below Φ (T.setTop (mkF m pc Ls rest)) := by
  subst hp; exact own_via (X.ldc2Long hx hown (mvT hZ w) (g := mkF m pc Ls rest) rfl hd) h
end OwnKitA
section OwnStr
theorem own_c0 {P : Int32 → Prop} : ∀ c ∈ ([] : List Int32), P c := fun _ q => nomatch q
theorem own_c2 {P : Int32 → Prop} {c : Int32} {L : List Int32} (h : P c) (r : ∀ x ∈ L, P x) : ∀ x ∈ c :: L, P x := fun x q => (List.mem_cons.mp q).elim (fun e => e ▸ h) (r x)
theorem own_up {cs : List Int32} (h : ∀ c ∈ cs, ¬ c < 0 ∧ ¬ (255 : Int32) < c) : ∀ c ∈ cs, ¬ c < 0 ∧ ¬ (65535 : Int32) < c := fun c hc => ⟨(h c hc).1, fun q => (h c hc).2 (by rw [Int32.lt_iff_toInt_lt] at q ⊢; have e1 : (65535 : Int32).toInt = 65535 := rfl; have e2 : (255 : Int32).toInt = 255 := rfl; omega)⟩
theorem own_ch (x : Int32) : ¬ (x &&& (255 : Int32)).toUInt32.toUInt16.toUInt32.toInt32 < 0 ∧ ¬ (255 : Int32) < (x &&& (255 : Int32)).toUInt32.toUInt16.toUInt32.toInt32 := by
  rw [i2c_mask]
  have h := c_mask x 255 8 (by decide) (by decide)
  constructor
  · rw [Int32.lt_iff_toInt_lt, h]; have e : (0 : Int32).toInt = 0 := rfl; omega
  · rw [Int32.lt_iff_toInt_lt, h]; have e : (255 : Int32).toInt = 255 := rfl; omega
theorem own_narC {c : Int32} (h : ¬ c < 0 ∧ ¬ (255 : Int32) < c) : nar .char c = c := by
  obtain ⟨h1, h2⟩ := h
  rw [Int32.lt_iff_toInt_lt] at h1 h2
  have e0 : (0 : Int32).toInt = 0 := rfl
  have e1 : (255 : Int32).toInt = 255 := rfl
  have q := c_i2c c
  refine Int32.toInt_inj.mp ?_
  show c.toUInt32.toUInt16.toUInt32.toInt32.toInt = c.toInt
  omega
def own_Str (Z : State) (h : Heap) (a : Addr) (cs : List Int32) : Prop := ∃ (t : Addr) (kb : ClassId) (cd N : Int32) (vs : List Value), Exa Z h a "java/lang/String" ∧ Fld Z h a "java/lang/String" "value" "[B" (.ref t) ∧ Fld Z h a "java/lang/String" "coder" "B" (.int cd) ∧ Arv Z h t kb .byte N vs (.int 0) ∧ StrChars.Road.CodA cs cd N vs ∧ (∀ c ∈ cs, ¬ c < 0 ∧ ¬ (65535 : Int32) < c) ∧ cs.length ≤ 4000
theorem own_Str.ext {Z : State} {h h' : Heap} {a : Addr} {cs : List Int32} (F : own_Str Z h a cs) (E : Ext h h') : own_Str Z h' a cs := by
  obtain ⟨t, kb, cd, N, vs, h1, h2, h3, h4, h5⟩ := F
  exact ⟨t, kb, cd, N, vs, h1.ext E, h2.ext E, h3.ext E, h4.ext E, h5⟩
theorem own_Str.keep0 {Z : State} {h h' : Heap} {a : Addr} {cs : List Int32} (F : own_Str Z h a cs) (K : Keep h h' []) : own_Str Z h' a cs := by
  obtain ⟨t, kb, cd, N, vs, h1, h2, h3, h4, h5⟩ := F
  exact ⟨t, kb, cd, N, vs, h1.keep K, h2.keep K nin0, h3.keep K nin0, h4.keep K nin0, h5⟩
theorem own_safeNull {Z : State} {EL : List (String × Nat)} {vm : Vm} {h : Heap} {x : Addr} (hal : Z.vm.Alike vm) (E : Exa Z h x "java/lang/String") (F : Fld Z h x "java/lang/String" "value" "[B" .null) : Safe Z EL vm h x := fun B => by
  obtain ⟨p, -, u, a, -, q, -, G, rfl | rfl⟩ := B
  · have ha := (show h[q.sa]? = some q.sC from G.ha)
    obtain ⟨cell, cf, k, i, f, h1, h2, -, -, -, -, h7⟩ := F
    cases ha.symm.trans h1
    obtain ⟨cS, ⟨⟨-, -, -, ⟨c1, k1, i1, f1, -⟩, -, -, -, v1, -⟩, -⟩, -⟩ := G
    obtain ⟨k3, e3, -⟩ := State.fieldFound?_setVm (s := Z) hal h2
    have e4 := (show (Wst Z vm h).fieldFound? _ _ _ = _ from e3).symm.trans f1
    simp only [Option.some.injEq, Prod.mk.injEq] at e4
    rw [← e4.2.2.2, h7] at v1
    cases v1
  · obtain ⟨cell, k, e1, e2, e3, -, -⟩ := E
    cases (show h[q.sd]? = some q.SA from G.hd).symm.trans e1
    obtain ⟨cS, -, -, f, -⟩ := G
    have f' : vm.findClass "[B" = some q.SA.cls := f
    rw [hal.findClass] at f'
    obtain ⟨k1, q1, q2⟩ := Vm.findClass_spec f'
    obtain ⟨k2, q3, q4⟩ := Vm.findClass_spec e2
    cases q1.symm.trans q3
    exact absurd (q2.symm.trans q4) (by decide)
end OwnStr
theorem own_pd0 : parseMethodDescriptor "([CIILjava/lang/Void;)V" = some ⟨[(.array .char), .int, .int, (.object "java/lang/Void")], none⟩ := by decide +kernel
theorem own_pd1 : parseMethodDescriptor "(C)Z" = some ⟨[.char], some .boolean⟩ := by decide +kernel
theorem own_pd2 : parseMethodDescriptor "(C)[B" = some ⟨[.char], some (.array .byte)⟩ := by decide +kernel
theorem own_pd3 : parseMethodDescriptor "([BB)V" = some ⟨[(.array .byte), .byte], none⟩ := by decide +kernel
theorem own_pd4 : parseMethodDescriptor "()V" = some ⟨[], none⟩ := by decide +kernel
theorem own_pd5 : parseMethodDescriptor "(II)I" = some ⟨[.int, .int], some .int⟩ := by decide +kernel
theorem own_pd6 : parseMethodDescriptor "(I)[Ljava/lang/Object;" = some ⟨[.int], some (.array (.object "java/lang/Object"))⟩ := by decide +kernel
theorem own_pd7 : parseMethodDescriptor "()[Ljava/lang/Object;" = some ⟨[], some (.array (.object "java/lang/Object"))⟩ := by decide +kernel
theorem own_pd8 : parseMethodDescriptor "(Ljava/lang/Object;[Ljava/lang/Object;I)V" = some ⟨[(.object "java/lang/Object"), (.array (.object "java/lang/Object")), .int], none⟩ := by decide +kernel
theorem own_pd9 : parseMethodDescriptor "([C)V" = some ⟨[(.array .char)], none⟩ := by decide +kernel
theorem own_pd10 : parseMethodDescriptor "(C)Ljava/lang/String;" = some ⟨[.char], some (.object "java/lang/String")⟩ := by decide +kernel
theorem own_pd11 : parseMethodDescriptor "(Ljava/lang/String;Ljava/lang/String;Ljava/util/List;)V" = some ⟨[(.object "java/lang/String"), (.object "java/lang/String"), (.object "java/util/List")], none⟩ := by decide +kernel
theorem own_pd12 : parseMethodDescriptor "()Z" = some ⟨[], some .boolean⟩ := by decide +kernel
theorem own_pd13 : parseMethodDescriptor "(Ljava/lang/Object;)Z" = some ⟨[(.object "java/lang/Object")], some .boolean⟩ := by decide +kernel
theorem own_d_jdk_42_method_149_code_0 : decode jdk_42_method_149_code 0 = .ok (.aload_n 0, 1) := by decide +kernel
theorem own_d_jdk_42_method_149_code_1 : decode jdk_42_method_149_code 1 = .ok (.invokespecial 1, 3) := by decide +kernel
theorem own_d_jdk_42_method_149_code_4 : decode jdk_42_method_149_code 4 = .ok (.iload_n 3, 1) := by decide +kernel
theorem own_d_jdk_42_method_149_code_5 : decode jdk_42_method_149_code 5 = .ok (.ifCond .ne 22, 3) := by decide +kernel
theorem own_d_jdk_42_method_149_code_8 : decode jdk_42_method_149_code 8 = .ok (.aload_n 0, 1) := by decide +kernel
theorem own_d_jdk_42_method_149_code_9 : decode jdk_42_method_149_code 9 = .ok (.ldc 7, 2) := by decide +kernel
theorem own_d_jdk_42_method_149_code_11 : decode jdk_42_method_149_code 11 = .ok (.getfield 9, 3) := by decide +kernel
theorem own_d_jdk_42_method_149_code_14 : decode jdk_42_method_149_code 14 = .ok (.putfield 9, 3) := by decide +kernel
theorem own_d_jdk_42_method_149_code_17 : decode jdk_42_method_149_code 17 = .ok (.aload_n 0, 1) := by decide +kernel
theorem own_d_jdk_42_method_149_code_18 : decode jdk_42_method_149_code 18 = .ok (.ldc 7, 2) := by decide +kernel
theorem own_d_jdk_42_method_149_code_20 : decode jdk_42_method_149_code 20 = .ok (.getfield 15, 3) := by decide +kernel
theorem own_d_jdk_42_method_149_code_23 : decode jdk_42_method_149_code 23 = .ok (.putfield 15, 3) := by decide +kernel
theorem own_d_jdk_42_method_149_code_26 : decode jdk_42_method_149_code 26 = .ok (.return_, 1) := by decide +kernel
theorem own_pn_java_lang_String : plainName "java/lang/String" = true := by first | (simp [plainName, overriddenIn]; done) | decide +kernel
theorem own_d_jdk_42_method_3_code_0 : decode jdk_42_method_3_code 0 = .ok (.aload_n 0, 1) := by decide +kernel
theorem own_d_jdk_42_method_3_code_1 : decode jdk_42_method_3_code 1 = .ok (.aload_n 1, 1) := by decide +kernel
theorem own_d_jdk_42_method_3_code_2 : decode jdk_42_method_3_code 2 = .ok (.iconst 0, 1) := by decide +kernel
theorem own_d_jdk_42_method_3_code_3 : decode jdk_42_method_3_code 3 = .ok (.aload_n 1, 1) := by decide +kernel
theorem own_d_jdk_42_method_3_code_4 : decode jdk_42_method_3_code 4 = .ok (.arraylength, 1) := by decide +kernel
theorem own_d_jdk_42_method_3_code_5 : decode jdk_42_method_3_code 5 = .ok (.aconst_null, 1) := by decide +kernel
theorem own_d_jdk_42_method_3_code_6 : decode jdk_42_method_3_code 6 = .ok (.invokespecial 27, 3) := by decide +kernel
theorem own_d_jdk_42_method_3_code_9 : decode jdk_42_method_3_code 9 = .ok (.return_, 1) := by decide +kernel
theorem own_d_jdk_43_method_3_code_0 : decode jdk_43_method_3_code 0 = .ok (.iload_n 0, 1) := by decide +kernel
theorem own_d_jdk_43_method_3_code_1 : decode jdk_43_method_3_code 1 = .ok (.sipush 255, 3) := by decide +kernel
theorem own_d_jdk_43_method_3_code_4 : decode jdk_43_method_3_code 4 = .ok (.if_icmp .gt 7, 3) := by decide +kernel
theorem own_d_jdk_43_method_3_code_7 : decode jdk_43_method_3_code 7 = .ok (.iconst 1, 1) := by decide +kernel
theorem own_d_jdk_43_method_3_code_8 : decode jdk_43_method_3_code 8 = .ok (.goto 4, 3) := by decide +kernel
theorem own_d_jdk_43_method_3_code_12 : decode jdk_43_method_3_code 12 = .ok (.ireturn, 1) := by decide +kernel
theorem own_pn_java_lang_StringLatin1 : plainName "java/lang/StringLatin1" = true := by first | (simp [plainName, overriddenIn]; done) | decide +kernel
theorem own_d_jdk_43_method_46_code_0 : decode jdk_43_method_46_code 0 = .ok (.iconst 1, 1) := by decide +kernel
theorem own_d_jdk_43_method_46_code_1 : decode jdk_43_method_46_code 1 = .ok (.newarray .byte, 2) := by decide +kernel
theorem own_d_jdk_43_method_46_code_3 : decode jdk_43_method_46_code 3 = .ok (.dup, 1) := by decide +kernel
theorem own_d_jdk_43_method_46_code_4 : decode jdk_43_method_46_code 4 = .ok (.iconst 0, 1) := by decide +kernel
theorem own_d_jdk_43_method_46_code_5 : decode jdk_43_method_46_code 5 = .ok (.iload_n 0, 1) := by decide +kernel
theorem own_d_jdk_43_method_46_code_6 : decode jdk_43_method_46_code 6 = .ok (.i2b, 1) := by decide +kernel
theorem own_d_jdk_43_method_46_code_7 : decode jdk_43_method_46_code 7 = .ok (.bastore, 1) := by decide +kernel
theorem own_d_jdk_43_method_46_code_8 : decode jdk_43_method_46_code 8 = .ok (.areturn, 1) := by decide +kernel
theorem own_d_jdk_42_method_151_code_0 : decode jdk_42_method_151_code 0 = .ok (.aload_n 0, 1) := by decide +kernel
theorem own_d_jdk_42_method_151_code_1 : decode jdk_42_method_151_code 1 = .ok (.invokespecial 1, 3) := by decide +kernel
theorem own_d_jdk_42_method_151_code_4 : decode jdk_42_method_151_code 4 = .ok (.aload_n 0, 1) := by decide +kernel
theorem own_d_jdk_42_method_151_code_5 : decode jdk_42_method_151_code 5 = .ok (.aload_n 1, 1) := by decide +kernel
theorem own_d_jdk_42_method_151_code_6 : decode jdk_42_method_151_code 6 = .ok (.putfield 9, 3) := by decide +kernel
theorem own_d_jdk_42_method_151_code_9 : decode jdk_42_method_151_code 9 = .ok (.aload_n 0, 1) := by decide +kernel
theorem own_d_jdk_42_method_151_code_10 : decode jdk_42_method_151_code 10 = .ok (.iload_n 2, 1) := by decide +kernel
theorem own_d_jdk_42_method_151_code_11 : decode jdk_42_method_151_code 11 = .ok (.putfield 15, 3) := by decide +kernel
theorem own_d_jdk_42_method_151_code_14 : decode jdk_42_method_151_code 14 = .ok (.return_, 1) := by decide +kernel
theorem own_d_jdk_42_method_139_code_0 : decode jdk_42_method_139_code 0 = .ok (.getstatic 38, 3) := by decide +kernel
theorem own_d_jdk_42_method_139_code_3 : decode jdk_42_method_139_code 3 = .ok (.ifCond .eq 23, 3) := by decide +kernel
theorem own_d_jdk_42_method_139_code_6 : decode jdk_42_method_139_code 6 = .ok (.iload_n 0, 1) := by decide +kernel
theorem own_d_jdk_42_method_139_code_7 : decode jdk_42_method_139_code 7 = .ok (.invokestatic 1015, 3) := by decide +kernel
theorem own_d_jdk_42_method_139_code_10 : decode jdk_42_method_139_code 10 = .ok (.ifCond .eq 16, 3) := by decide +kernel
theorem own_d_jdk_42_method_139_code_13 : decode jdk_42_method_139_code 13 = .ok (.new 10, 3) := by decide +kernel
theorem own_d_jdk_42_method_139_code_16 : decode jdk_42_method_139_code 16 = .ok (.dup, 1) := by decide +kernel
theorem own_d_jdk_42_method_139_code_17 : decode jdk_42_method_139_code 17 = .ok (.iload_n 0, 1) := by decide +kernel
theorem own_d_jdk_42_method_139_code_18 : decode jdk_42_method_139_code 18 = .ok (.invokestatic 1018, 3) := by decide +kernel
theorem own_d_jdk_42_method_139_code_21 : decode jdk_42_method_139_code 21 = .ok (.iconst 0, 1) := by decide +kernel
theorem own_d_jdk_42_method_139_code_22 : decode jdk_42_method_139_code 22 = .ok (.invokespecial 209, 3) := by decide +kernel
theorem own_d_jdk_42_method_139_code_25 : decode jdk_42_method_139_code 25 = .ok (.areturn, 1) := by decide +kernel
theorem own_d_jdk_30_method_1_code_0 : decode jdk_30_method_1_code 0 = .ok (.aload_n 0, 1) := by decide +kernel
theorem own_d_jdk_30_method_1_code_1 : decode jdk_30_method_1_code 1 = .ok (.invokespecial 1, 3) := by decide +kernel
theorem own_d_jdk_30_method_1_code_4 : decode jdk_30_method_1_code 4 = .ok (.return_, 1) := by decide +kernel
theorem own_pn_java_lang_Record : plainName "java/lang/Record" = true := by first | (simp [plainName, overriddenIn]; done) | decide +kernel
theorem own_d_jdk_22_method_1_code_0 : decode jdk_22_method_1_code 0 = .ok (.aload_n 0, 1) := by decide +kernel
theorem own_d_jdk_22_method_1_code_1 : decode jdk_22_method_1_code 1 = .ok (.invokespecial 1, 3) := by decide +kernel
theorem own_d_jdk_22_method_1_code_4 : decode jdk_22_method_1_code 4 = .ok (.return_, 1) := by decide +kernel
theorem own_pn_java_util_AbstractCollection : plainName "java/util/AbstractCollection" = true := by first | (simp [plainName, overriddenIn]; done) | decide +kernel
theorem own_d_jdk_39_method_1_code_0 : decode jdk_39_method_1_code 0 = .ok (.aload_n 0, 1) := by decide +kernel
theorem own_d_jdk_39_method_1_code_1 : decode jdk_39_method_1_code 1 = .ok (.invokespecial 1, 3) := by decide +kernel
theorem own_d_jdk_39_method_1_code_4 : decode jdk_39_method_1_code 4 = .ok (.aload_n 0, 1) := by decide +kernel
theorem own_d_jdk_39_method_1_code_5 : decode jdk_39_method_1_code 5 = .ok (.iconst 0, 1) := by decide +kernel
theorem own_d_jdk_39_method_1_code_6 : decode jdk_39_method_1_code 6 = .ok (.putfield 7, 3) := by decide +kernel
theorem own_d_jdk_39_method_1_code_9 : decode jdk_39_method_1_code 9 = .ok (.return_, 1) := by decide +kernel
theorem own_pn_java_util_AbstractList : plainName "java/util/AbstractList" = true := by first | (simp [plainName, overriddenIn]; done) | decide +kernel
theorem own_d_jdk_38_method_2_code_0 : decode jdk_38_method_2_code 0 = .ok (.aload_n 0, 1) := by decide +kernel
theorem own_d_jdk_38_method_2_code_1 : decode jdk_38_method_2_code 1 = .ok (.invokespecial 1, 3) := by decide +kernel
theorem own_d_jdk_38_method_2_code_4 : decode jdk_38_method_2_code 4 = .ok (.aload_n 0, 1) := by decide +kernel
theorem own_d_jdk_38_method_2_code_5 : decode jdk_38_method_2_code 5 = .ok (.getstatic 39, 3) := by decide +kernel
theorem own_d_jdk_38_method_2_code_8 : decode jdk_38_method_2_code 8 = .ok (.putfield 9, 3) := by decide +kernel
theorem own_d_jdk_38_method_2_code_11 : decode jdk_38_method_2_code 11 = .ok (.return_, 1) := by decide +kernel
theorem own_pn_java_util_ArrayList : plainName "java/util/ArrayList" = true := by first | (simp [plainName, overriddenIn]; done) | decide +kernel
theorem own_d_jdk_29_method_65_code_0 : decode jdk_29_method_65_code 0 = .ok (.iload_n 0, 1) := by decide +kernel
theorem own_d_jdk_29_method_65_code_1 : decode jdk_29_method_65_code 1 = .ok (.iload_n 1, 1) := by decide +kernel
theorem own_d_jdk_29_method_65_code_2 : decode jdk_29_method_65_code 2 = .ok (.if_icmp .lt 7, 3) := by decide +kernel
theorem own_d_jdk_29_method_65_code_5 : decode jdk_29_method_65_code 5 = .ok (.iload_n 0, 1) := by decide +kernel
theorem own_d_jdk_29_method_65_code_6 : decode jdk_29_method_65_code 6 = .ok (.goto 4, 3) := by decide +kernel
theorem own_d_jdk_29_method_65_code_10 : decode jdk_29_method_65_code 10 = .ok (.ireturn, 1) := by decide +kernel
theorem own_d_jdk_38_method_6_code_0 : decode jdk_38_method_6_code 0 = .ok (.aload_n 0, 1) := by decide +kernel
theorem own_d_jdk_38_method_6_code_1 : decode jdk_38_method_6_code 1 = .ok (.getfield 9, 3) := by decide +kernel
theorem own_d_jdk_38_method_6_code_4 : decode jdk_38_method_6_code 4 = .ok (.arraylength, 1) := by decide +kernel
theorem own_d_jdk_38_method_6_code_5 : decode jdk_38_method_6_code 5 = .ok (.istore_n 2, 1) := by decide +kernel
theorem own_d_jdk_38_method_6_code_6 : decode jdk_38_method_6_code 6 = .ok (.iload_n 2, 1) := by decide +kernel
theorem own_d_jdk_38_method_6_code_7 : decode jdk_38_method_6_code 7 = .ok (.ifCond .gt 13, 3) := by decide +kernel
theorem own_d_jdk_38_method_6_code_10 : decode jdk_38_method_6_code 10 = .ok (.aload_n 0, 1) := by decide +kernel
theorem own_d_jdk_38_method_6_code_11 : decode jdk_38_method_6_code 11 = .ok (.getfield 9, 3) := by decide +kernel
theorem own_d_jdk_38_method_6_code_14 : decode jdk_38_method_6_code 14 = .ok (.getstatic 39, 3) := by decide +kernel
theorem own_d_jdk_38_method_6_code_17 : decode jdk_38_method_6_code 17 = .ok (.if_acmp .eq 28, 3) := by decide +kernel
theorem own_d_jdk_38_method_6_code_45 : decode jdk_38_method_6_code 45 = .ok (.aload_n 0, 1) := by decide +kernel
theorem own_d_jdk_38_method_6_code_46 : decode jdk_38_method_6_code 46 = .ok (.bipush 10, 2) := by decide +kernel
theorem own_d_jdk_38_method_6_code_48 : decode jdk_38_method_6_code 48 = .ok (.iload_n 1, 1) := by decide +kernel
theorem own_d_jdk_38_method_6_code_49 : decode jdk_38_method_6_code 49 = .ok (.invokestatic 79, 3) := by decide +kernel
theorem own_d_jdk_38_method_6_code_52 : decode jdk_38_method_6_code 52 = .ok (.anewarray 7, 3) := by decide +kernel
theorem own_d_jdk_38_method_6_code_55 : decode jdk_38_method_6_code 55 = .ok (.dup_x1, 1) := by decide +kernel
theorem own_d_jdk_38_method_6_code_56 : decode jdk_38_method_6_code 56 = .ok (.putfield 9, 3) := by decide +kernel
theorem own_d_jdk_38_method_6_code_59 : decode jdk_38_method_6_code 59 = .ok (.areturn, 1) := by decide +kernel
theorem own_d_jdk_38_method_7_code_0 : decode jdk_38_method_7_code 0 = .ok (.aload_n 0, 1) := by decide +kernel
theorem own_d_jdk_38_method_7_code_1 : decode jdk_38_method_7_code 1 = .ok (.aload_n 0, 1) := by decide +kernel
theorem own_d_jdk_38_method_7_code_2 : decode jdk_38_method_7_code 2 = .ok (.getfield 48, 3) := by decide +kernel
theorem own_d_jdk_38_method_7_code_5 : decode jdk_38_method_7_code 5 = .ok (.iconst 1, 1) := by decide +kernel
theorem own_d_jdk_38_method_7_code_6 : decode jdk_38_method_7_code 6 = .ok (.iadd, 1) := by decide +kernel
theorem own_d_jdk_38_method_7_code_7 : decode jdk_38_method_7_code 7 = .ok (.invokevirtual 69, 3) := by decide +kernel
theorem own_d_jdk_38_method_7_code_10 : decode jdk_38_method_7_code 10 = .ok (.areturn, 1) := by decide +kernel
theorem own_d_jdk_38_method_24_code_0 : decode jdk_38_method_24_code 0 = .ok (.iload_n 3, 1) := by decide +kernel
theorem own_d_jdk_38_method_24_code_1 : decode jdk_38_method_24_code 1 = .ok (.aload_n 2, 1) := by decide +kernel
theorem own_d_jdk_38_method_24_code_2 : decode jdk_38_method_24_code 2 = .ok (.arraylength, 1) := by decide +kernel
theorem own_d_jdk_38_method_24_code_3 : decode jdk_38_method_24_code 3 = .ok (.if_icmp .ne 8, 3) := by decide +kernel
theorem own_d_jdk_38_method_24_code_6 : decode jdk_38_method_24_code 6 = .ok (.aload_n 0, 1) := by decide +kernel
theorem own_d_jdk_38_method_24_code_7 : decode jdk_38_method_24_code 7 = .ok (.invokevirtual 129, 3) := by decide +kernel
theorem own_d_jdk_38_method_24_code_10 : decode jdk_38_method_24_code 10 = .ok (.astore_n 2, 1) := by decide +kernel
theorem own_d_jdk_38_method_24_code_11 : decode jdk_38_method_24_code 11 = .ok (.aload_n 2, 1) := by decide +kernel
theorem own_d_jdk_38_method_24_code_12 : decode jdk_38_method_24_code 12 = .ok (.iload_n 3, 1) := by decide +kernel
theorem own_d_jdk_38_method_24_code_13 : decode jdk_38_method_24_code 13 = .ok (.aload_n 1, 1) := by decide +kernel
theorem own_d_jdk_38_method_24_code_14 : decode jdk_38_method_24_code 14 = .ok (.aastore, 1) := by decide +kernel
theorem own_d_jdk_38_method_24_code_15 : decode jdk_38_method_24_code 15 = .ok (.aload_n 0, 1) := by decide +kernel
theorem own_d_jdk_38_method_24_code_16 : decode jdk_38_method_24_code 16 = .ok (.iload_n 3, 1) := by decide +kernel
theorem own_d_jdk_38_method_24_code_17 : decode jdk_38_method_24_code 17 = .ok (.iconst 1, 1) := by decide +kernel
theorem own_d_jdk_38_method_24_code_18 : decode jdk_38_method_24_code 18 = .ok (.iadd, 1) := by decide +kernel
theorem own_d_jdk_38_method_24_code_19 : decode jdk_38_method_24_code 19 = .ok (.putfield 48, 3) := by decide +kernel
theorem own_d_jdk_38_method_24_code_22 : decode jdk_38_method_24_code 22 = .ok (.return_, 1) := by decide +kernel
theorem own_d_jdk_38_method_25_code_0 : decode jdk_38_method_25_code 0 = .ok (.aload_n 0, 1) := by decide +kernel
theorem own_d_jdk_38_method_25_code_1 : decode jdk_38_method_25_code 1 = .ok (.dup, 1) := by decide +kernel
theorem own_d_jdk_38_method_25_code_2 : decode jdk_38_method_25_code 2 = .ok (.getfield 63, 3) := by decide +kernel
theorem own_d_jdk_38_method_25_code_5 : decode jdk_38_method_25_code 5 = .ok (.iconst 1, 1) := by decide +kernel
theorem own_d_jdk_38_method_25_code_6 : decode jdk_38_method_25_code 6 = .ok (.iadd, 1) := by decide +kernel
theorem own_d_jdk_38_method_25_code_7 : decode jdk_38_method_25_code 7 = .ok (.putfield 63, 3) := by decide +kernel
theorem own_d_jdk_38_method_25_code_10 : decode jdk_38_method_25_code 10 = .ok (.aload_n 0, 1) := by decide +kernel
theorem own_d_jdk_38_method_25_code_11 : decode jdk_38_method_25_code 11 = .ok (.aload_n 1, 1) := by decide +kernel
theorem own_d_jdk_38_method_25_code_12 : decode jdk_38_method_25_code 12 = .ok (.aload_n 0, 1) := by decide +kernel
theorem own_d_jdk_38_method_25_code_13 : decode jdk_38_method_25_code 13 = .ok (.getfield 9, 3) := by decide +kernel
theorem own_d_jdk_38_method_25_code_16 : decode jdk_38_method_25_code 16 = .ok (.aload_n 0, 1) := by decide +kernel
theorem own_d_jdk_38_method_25_code_17 : decode jdk_38_method_25_code 17 = .ok (.getfield 48, 3) := by decide +kernel
theorem own_d_jdk_38_method_25_code_20 : decode jdk_38_method_25_code 20 = .ok (.invokevirtual 131, 3) := by decide +kernel
theorem own_d_jdk_38_method_25_code_23 : decode jdk_38_method_25_code 23 = .ok (.iconst 1, 1) := by decide +kernel
theorem own_d_jdk_38_method_25_code_24 : decode jdk_38_method_25_code 24 = .ok (.ireturn, 1) := by decide +kernel
theorem own_d_prog_31_method_1_code_0 : decode prog_31_method_1_code 0 = .ok (.aload_n 0, 1) := by decide +kernel
theorem own_d_prog_31_method_1_code_1 : decode prog_31_method_1_code 1 = .ok (.invokespecial 1, 3) := by decide +kernel
theorem own_d_prog_31_method_1_code_4 : decode prog_31_method_1_code 4 = .ok (.aload_n 0, 1) := by decide +kernel
theorem own_d_prog_31_method_1_code_5 : decode prog_31_method_1_code 5 = .ok (.aload_n 1, 1) := by decide +kernel
theorem own_d_prog_31_method_1_code_6 : decode prog_31_method_1_code 6 = .ok (.putfield 7, 3) := by decide +kernel
theorem own_d_prog_31_method_1_code_9 : decode prog_31_method_1_code 9 = .ok (.aload_n 0, 1) := by decide +kernel
theorem own_d_prog_31_method_1_code_10 : decode prog_31_method_1_code 10 = .ok (.aload_n 2, 1) := by decide +kernel
theorem own_d_prog_31_method_1_code_11 : decode prog_31_method_1_code 11 = .ok (.putfield 13, 3) := by decide +kernel
theorem own_d_prog_31_method_1_code_14 : decode prog_31_method_1_code 14 = .ok (.aload_n 0, 1) := by decide +kernel
theorem own_d_prog_31_method_1_code_15 : decode prog_31_method_1_code 15 = .ok (.aload_n 3, 1) := by decide +kernel
theorem own_d_prog_31_method_1_code_16 : decode prog_31_method_1_code 16 = .ok (.putfield 16, 3) := by decide +kernel
theorem own_d_prog_31_method_1_code_19 : decode prog_31_method_1_code 19 = .ok (.return_, 1) := by decide +kernel
theorem own_pn_com_example_ledgerleaf_ledgerleaf_Element : plainName "com/example/ledgerleaf/ledgerleaf/Element" = true := by first | (simp [plainName, overriddenIn]; done) | decide +kernel
theorem own_d_prog_31_method_5_code_0 : decode prog_31_method_5_code 0 = .ok (.aload_n 0, 1) := by decide +kernel
theorem own_d_prog_31_method_5_code_1 : decode prog_31_method_5_code 1 = .ok (.getfield 13, 3) := by decide +kernel
theorem own_d_prog_31_method_5_code_4 : decode prog_31_method_5_code 4 = .ok (.ifnull 7, 3) := by decide +kernel
theorem own_d_prog_31_method_5_code_11 : decode prog_31_method_5_code 11 = .ok (.iconst 0, 1) := by decide +kernel
theorem own_d_prog_31_method_5_code_12 : decode prog_31_method_5_code 12 = .ok (.ireturn, 1) := by decide +kernel
theorem own_d_prog_31_method_5_code_7 : decode prog_31_method_5_code 7 = .ok (.iconst 1, 1) := by decide +kernel
theorem own_d_prog_31_method_5_code_8 : decode prog_31_method_5_code 8 = .ok (.goto 4, 3) := by decide +kernel
theorem own_pn_com_example_ledgerleaf_ledgerleaf_ElementHoldsTextPinLaw : plainName "com/example/ledgerleaf/ledgerleaf/ElementHoldsTextPinLaw" = true := by first | (simp [plainName, overriddenIn]; done) | decide +kernel
set_option maxRecDepth 65536 in
theorem own_hws {a0 : Array Value} {Z : State} (hw : ∀ d ∈ tables_1, d.before a0 Z = true) : ∀ d ∈ StrChars.Road.words, d.before a0 Z = true := fun d hd => hw d ((by decide +kernel : ∀ d ∈ StrChars.Road.words, d ∈ tables_1) d hd)
set_option maxRecDepth 65536 in
theorem own_hwS {a0 : Array Value} {Z : State} (hw : ∀ d ∈ tables_1, d.before a0 Z = true) : ∀ d ∈ Bundle.stringAtoms, d.before a0 Z = true := fun d hd => hw d ((by decide +kernel : ∀ d ∈ Bundle.stringAtoms, d ∈ tables_1) d hd)
theorem own_arr0 {args : Array Value} {s : State} {t : Term} {a : Addr} {ty : FieldType} (hf : Fit s) (ev : t.eval args s none [] s = some (.ref a)) (h : (Jvm.Cond.arrayOf t ty).value args s none s [] = some true) (hl : (Jvm.Cond.eq (.length t) (.int 0)).value args s none s [] = some true) : ∃ k, Arv s s.heap a k ty (0 : Int32) [] (.null) := by
  obtain ⟨cl, A⟩ := Arr.start ev h
  have ha := Arr.fin (Vm.Alike.refl _) A
  have hsz : cl.slots.size = 0 := by
    by_cases q : cl.slots.size < 2 ^ 31
    · have e := len_f ev ha q
      have e2 : cl.slots.size.toInt32 = (0 : Int32) := gotT (Cond.eq_ints e (Term.int_eval (0))) hl
      have e3 := len_toInt q
      rw [e2] at e3
      have e4 : (0 : Int32).toInt = 0 := rfl
      omega
    · simp [Cond.value, Term.eval, ev, ha, q] at hl
  exact ⟨cl.cls, Arv.start hf A (by omega) (by rw [hsz]; rfl) (by decide) (by decide) trivial⟩
set_option maxRecDepth 65536 in
set_option maxHeartbeats 40000000 in
theorem own_s4 (l : Launch) (Z : State) (a0 : Array Value) (hw : ∀ d ∈ tables_1, d.before a0 Z = true) (a1 c1 : Addr) (h0 : Heap) (n0 : Nat) (hEL : EW Z a0 consts_1) (O0 : Old Z n0 h0) (g_a1 : n0 ≤ a1) (E0 : Exa Z h0 a1 "java/lang/String") (F1 : Fld Z h0 a1 "java/lang/String" "value" "[B" .null) (F2 : Fld Z h0 a1 "java/lang/String" "coder" "B" (.int (0 : Int32))) :
    own_MetH l (⟨"java/lang/String", "<init>", "([CIILjava/lang/Void;)V"⟩ : MethodName) jdk_42_method_149_code 6 none ({ frames := 1, cells := 4, slots := 8, locals := 12 } : Room) Z consts_1 #[(.ref a1), (.ref c1), (.int (0 : Int32)), (.int (0 : Int32)), .null] h0 (fun v h L => v = none ∧ Fr n0 L ∧ Keep h0 h [a1] ∧ own_Str Z h a1 []) := by
  refine own_metH (plainFor_of_name own_pn_java_lang_String) ?_
  intro p e s m below meth c T0 hx hby hml hZ hown hnm hret hlocks X0 e0 hh0 HH0
  have ef : entryFrame m #[(.ref a1), (.ref c1), (.int (0 : Int32)), (.int (0 : Int32)), .null] 6 = mkF m 0 #[.val (.ref a1), .val (.ref c1), .val (.int (0 : Int32)), .val (.int (0 : Int32)), .val .null, .unset] [] := by first | (simp [entryFrame, mkF, argsToLocals, Value.category]; done) | rfl
  refine own_entry ef ?_
  have N0 := Fr.nil n0
  have K0 := Keep.refl h0 [a1]
  have hwS := own_hwS hw
  have Y0 := own_safeNull (EL := consts_1) hZ.alike E0 F1
  refine own_aloadN X0 hx (hb hby own_d_jdk_42_method_149_code_0) rfl rfl rfl ?_
  refine own_initO X0 hx hZ hown (hw _ (List.mem_of_getElem? (i := 11) rfl)) (hw _ (List.mem_of_getElem? (i := 12) rfl)) (hw _ (List.mem_of_getElem? (i := 13) rfl)) e0 (by rw [hml]; rfl) (hb hby own_d_jdk_42_method_149_code_1) 0 rfl (by decide) (by decide) rfl ?_
  intro T1 X1 e1
  refine own_iloadN X1 hx (hb hby own_d_jdk_42_method_149_code_4) rfl rfl ?_
  refine own_ifF X1 hx (hb hby own_d_jdk_42_method_149_code_5) rfl (by decide) ?_
  refine own_aloadN X1 hx (hb hby own_d_jdk_42_method_149_code_8) rfl rfl rfl ?_
  refine own_ldcS X1 hx hZ hown (hw _ (List.mem_of_getElem? (i := 30) rfl)) hwS e1 HH0 hEL (List.mem_of_getElem? (i := 0) rfl) (vs := ((([] : List Int32).map StrChars.lo8).map Value.int)) (z := (0 : Int32)) (by decide +kernel) (by decide) (by decide) (hb hby own_d_jdk_42_method_149_code_9) 0 (by decide) (by decide) (by decide) (by decide) rfl ?_
  intro ls2 T2 h2 lt2 k2 X2 e2 E2 hZ hown HH2 A2 Ex2 Fc2 Fv2 V2 ne2
  have K3 := K0.ext E2
  have f4 := (CHr.safe A2 E0.lt Y0)
  have nq2_a1 := ne2 _ f4
  refine own_getF X2 hx hZ hown (host := "") (Or.inl (hw _ (List.mem_of_getElem? (i := 28) rfl))) Via.refl e2 Fv2 (hb hby own_d_jdk_42_method_149_code_11) rfl ?_
  intro T5 X5 e5
  have f6 := (F1.ext E2)
  have f7 := (E0.ext E2)
  refine own_putF X5 hx hZ hown (host := "") (Or.inl (hw _ (List.mem_of_getElem? (i := 28) rfl))) Via.refl e5 f6 f7 (Or.inr ⟨(hw _ (List.mem_of_getElem? (i := 29) rfl)), rfl, hnm⟩) (hw _ (List.mem_of_getElem? (i := 2) rfl)) (ty := (.array .byte)) (by decide) rfl rfl N0 g_a1 (hb hby own_d_jdk_42_method_149_code_14) rfl ?_
  intro T8 h8 X8 e8 W8 N8
  have HH9 := HH2.wr W8 f4
  have K10 := K3.wr W8 (Or.inl (List.mem_of_getElem? (i := 0) rfl))
  have f11 := f6.same W8
  refine own_aloadN X8 hx (hb hby own_d_jdk_42_method_149_code_17) rfl rfl rfl ?_
  refine own_ldcS X8 hx hZ hown (hw _ (List.mem_of_getElem? (i := 30) rfl)) hwS e8 HH9 hEL (List.mem_of_getElem? (i := 0) rfl) (vs := ((([] : List Int32).map StrChars.lo8).map Value.int)) (z := (0 : Int32)) (by decide +kernel) (by decide) (by decide) (hb hby own_d_jdk_42_method_149_code_18) 0 (by decide) (by decide) (by decide) (by decide) rfl ?_
  intro ls12 T12 h12 lt12 k12 X12 e12 E12 hZ hown HH12 A12 Ex12 Fc12 Fv12 V12 ne12
  have K13 := K10.ext E12
  have f14 := (CHr.safe A12 f11.lt (own_sfW f4 W8 f4 HH2))
  have nq12_a1 := ne12 _ f14
  refine own_getF X12 hx hZ hown (host := "") (Or.inl (hw _ (List.mem_of_getElem? (i := 26) rfl))) Via.refl e12 Fc12 (hb hby own_d_jdk_42_method_149_code_20) rfl ?_
  intro T15 X15 e15
  have f16 := (((F2.ext E2).other W8 (Or.inr (slot_ne (Or.inr (hw _ (List.mem_of_getElem? (i := 27) rfl))) (Or.inr (hw _ (List.mem_of_getElem? (i := 29) rfl))) (by decide) (t := .byte) (t' := (.array .byte)) (by decide) (by decide)))).ext E12)
  have f17 := ((f7.wr W8).ext E12)
  refine own_putFN X15 hx hZ hown (hw _ (List.mem_of_getElem? (i := 26) rfl)) Via.refl e15 (.int (0 : Int32)) f16 f17 (Or.inr ⟨(hw _ (List.mem_of_getElem? (i := 27) rfl)), rfl, hnm⟩) (hw _ (List.mem_of_getElem? (i := 2) rfl)) (ty := .byte) (by decide) rfl rfl N8 g_a1 (hb hby own_d_jdk_42_method_149_code_23) rfl ?_
  intro T18 h18 X18 e18 W18 N18
  have HH19 := HH12.wr W18 f14
  have K20 := K13.wr W18 (Or.inl (List.mem_of_getElem? (i := 0) rfl))
  have f21 := f16.same W18
  have f22 := (f17.wr W18)
  have f23 := ((f11.ext E12).other W18 (Or.inr (slot_ne (Or.inr (hw _ (List.mem_of_getElem? (i := 29) rfl))) (Or.inr (hw _ (List.mem_of_getElem? (i := 27) rfl))) (by decide) (t := (.array .byte)) (t' := .byte) (by decide) (by decide))))
  have f24 := (((V2.other W8 (Ne.symm nq2_a1.2)).ext E12).other W18 (Ne.symm nq2_a1.2))
  exact own_retH X18 hx hZ e18 HH19 hEL hlocks hret (hb hby own_d_jdk_42_method_149_code_26) (by decide) (by decide) ⟨rfl, N18, by rw [e18]; exact ⟨K20, _, _, _, _, _, f22, f23, f21, f24, StrChars.Road.codOf (cs := []) (n := 0) rfl (by decide), own_c0, (by decide)⟩⟩
set_option maxRecDepth 65536 in
set_option maxHeartbeats 40000000 in
theorem own_s1 (l : Launch) (Z : State) (a0 : Array Value) (hw : ∀ d ∈ tables_1, d.before a0 Z = true) (a1 c1 : Addr) (kc : ClassId) (h0 : Heap) (n0 : Nat) (hEL : EW Z a0 consts_1) (O0 : Old Z n0 h0) (g_a1 : n0 ≤ a1) (E0 : Exa Z h0 a1 "java/lang/String") (F1 : Fld Z h0 a1 "java/lang/String" "value" "[B" .null) (F2 : Fld Z h0 a1 "java/lang/String" "coder" "B" (.int (0 : Int32))) (V0 : Arv Z h0 c1 kc .char (0 : Int32) [] (.int (0 : Int32))) :
    own_MetH l (⟨"java/lang/String", "<init>", "([C)V"⟩ : MethodName) jdk_42_method_3_code 2 none ({ frames := 2, cells := 4, slots := 8, locals := 29 } : Room) Z consts_1 #[(.ref a1), (.ref c1)] h0 (fun v h L => v = none ∧ Fr n0 L ∧ Keep h0 h [a1] ∧ own_Str Z h a1 []) := by
  refine own_metH (plainFor_of_name own_pn_java_lang_String) ?_
  intro p e s m below meth c T0 hx hby hml hZ hown hnm hret hlocks X0 e0 hh0 HH0
  have ef : entryFrame m #[(.ref a1), (.ref c1)] 2 = mkF m 0 #[.val (.ref a1), .val (.ref c1)] [] := by first | (simp [entryFrame, mkF, argsToLocals, Value.category]; done) | rfl
  refine own_entry ef ?_
  have N0 := Fr.nil n0
  have K0 := Keep.refl h0 [a1]
  have hwS := own_hwS hw
  have Y0 := own_safeNull (EL := consts_1) hZ.alike E0 F1
  refine own_aloadN X0 hx (hb hby own_d_jdk_42_method_3_code_0) rfl rfl rfl ?_
  refine own_aloadN X0 hx (hb hby own_d_jdk_42_method_3_code_1) rfl rfl rfl ?_
  refine own_iconst X0 hx (0 : Int32) (hb hby own_d_jdk_42_method_3_code_2) (by decide) rfl ?_
  refine own_aloadN X0 hx (hb hby own_d_jdk_42_method_3_code_3) rfl rfl rfl ?_
  refine own_arraylength X0 hx hZ e0 V0 (hb hby own_d_jdk_42_method_3_code_4) rfl ?_
  refine own_aconst_null X0 hx (hb hby own_d_jdk_42_method_3_code_5) rfl ?_
  refine own_specialH X0 hx hZ (y := (⟨"java/lang/String", "<init>", "([CIILjava/lang/Void;)V"⟩ : MethodName)) rfl hown (hw _ (List.mem_of_getElem? (i := 7) rfl)) (hw _ (List.mem_of_getElem? (i := 8) rfl)) (hw _ (List.mem_of_getElem? (i := 3) rfl)) (hw _ (List.mem_of_getElem? (i := 10) rfl)) (by decide) HH0 hEL e0 (by decide) (W := 0) (by decide) (by decide) (by decide) [(.ref c1), (.int (0 : Int32)), (.int (0 : Int32)), .null] [] (by rw [hml]; rfl) (a := a1) (own_s4 l Z a0 hw a1 c1 h0 n0 hEL O0 g_a1 E0 F1 F2) own_pd0 rfl rfl rfl (hb hby own_d_jdk_42_method_3_code_6) rfl ?_
  intro v1 T1 L1 X1 hQ1 hZ hown HH1 A1
  obtain ⟨rfl, Nq1, Kq1, Ss1⟩ := hQ1
  have N1 := Fr.app N0 Nq1
  have K2 := K0.trans Kq1 (allS (Or.inl (List.mem_of_getElem? (i := 0) rfl)) all0)
  show own_Ends p e below _ (T1.setTop (mkF m 9 #[.val (.ref a1), .val (.ref c1)] []))
  exact own_retH X1 hx hZ rfl HH1 hEL hlocks hret (hb hby own_d_jdk_42_method_3_code_9) (by decide) (by decide) ⟨rfl, N1, K2, Ss1⟩
theorem own_lo8 (c : Int32) : (c.toInt8.toInt32).toInt8.toInt32 = c.toInt8.toInt32 := by simp
set_option maxRecDepth 65536 in
set_option maxHeartbeats 40000000 in
theorem own_canEnc (l : Launch) (Z : State) (a0 : Array Value) (hw : ∀ d ∈ tables_1, d.before a0 Z = true) (ch : Int32) (h0 : Heap) (n0 : Nat) (hc : ¬ ch < 0 ∧ ¬ (255 : Int32) < ch) :
    own_Met l (⟨"java/lang/StringLatin1", "canEncode", "(C)Z"⟩ : MethodName) jdk_43_method_3_code 1 (some .boolean) ({ frames := 0, cells := 0, slots := 0, locals := 0 } : Room) Z #[(.int ch)] h0 (fun v h L => v = some (.int 1) ∧ Fr n0 L ∧ h = h0) := by
  refine own_met (plainFor_of_name own_pn_java_lang_StringLatin1) ?_
  intro p e s m below meth c T0 hx hby hml hZ hown hnm hret hlocks X0 e0 hh0
  have ef : entryFrame m #[(.int ch)] 1 = mkF m 0 #[.val (.int ch)] [] := by first | (simp [entryFrame, mkF, argsToLocals, Value.category]; done) | rfl
  refine own_entry ef ?_
  have N0 := Fr.nil n0
  refine own_iloadN X0 hx (hb hby own_d_jdk_43_method_3_code_0) rfl rfl ?_
  refine own_sipush X0 hx (255 : Int32) (hb hby own_d_jdk_43_method_3_code_1) (by decide) rfl ?_
  refine own_icmpF X0 hx (hb hby own_d_jdk_43_method_3_code_4) rfl (flt hc.2).2.2.1 ?_
  refine own_iconst X0 hx (1 : Int32) (hb hby own_d_jdk_43_method_3_code_7) (by decide) rfl ?_
  refine own_goto X0 hx (hb hby own_d_jdk_43_method_3_code_8) (by decide) rfl ?_
  exact own_retN X0 hx hlocks hret (by simp) (hb hby own_d_jdk_43_method_3_code_12) (by decide) (by decide) (by decide) ⟨rfl, N0, e0⟩
set_option maxRecDepth 65536 in
set_option maxHeartbeats 40000000 in
theorem own_toBytes (l : Launch) (Z : State) (a0 : Array Value) (hw : ∀ d ∈ tables_1, d.before a0 Z = true) (ch : Int32) (h0 : Heap) (n0 : Nat) (Z0 : n0 ≤ h0.size) :
    own_Met l (⟨"java/lang/StringLatin1", "toBytes", "(C)[B"⟩ : MethodName) jdk_43_method_46_code 1 (some (.array .byte)) ({ frames := 0, cells := 1, slots := 1, locals := 0 } : Room) Z #[(.int ch)] h0 (fun v h L => ∃ (b : Addr) (k : ClassId), v = some (.ref b) ∧ Fr n0 L ∧ Keep h0 h [] ∧ n0 ≤ b ∧ h0.size ≤ b ∧ Arv Z h b k .byte (1 : Int32) [.int (ch.toInt8.toInt32)] (.int (0 : Int32))) := by
  refine own_met (plainFor_of_name own_pn_java_lang_StringLatin1) ?_
  intro p e s m below meth c T0 hx hby hml hZ hown hnm hret hlocks X0 e0 hh0
  have ef : entryFrame m #[(.int ch)] 1 = mkF m 0 #[.val (.int ch)] [] := by first | (simp [entryFrame, mkF, argsToLocals, Value.category]; done) | rfl
  refine own_entry ef ?_
  have N0 := Fr.nil n0
  have K0 := Keep.refl h0 []
  refine own_iconst X0 hx (1 : Int32) (hb hby own_d_jdk_43_method_46_code_0) (by decide) rfl ?_
  refine own_newP X0 hx hZ (aty := .byte) (hw _ (List.mem_of_getElem? (i := 19) rfl)) e0 (hb hby own_d_jdk_43_method_46_code_1) (by decide) 1 (by decide) (by decide) (by decide) (by decide) rfl ?_
  intro T1 h1 b1 k1 X1 e1 g1 E1 V1q
  have g_b1 : n0 ≤ b1 := Nat.le_trans (Nat.le_trans Z0 K0.1) (Nat.le_of_eq g1.symm)
  have sz_b1 : h0.size ≤ b1 := Nat.le_trans K0.1 (Nat.le_of_eq g1.symm)
  have K2 := K0.ext E1
  have V1 : Arv Z h1 b1 k1 .byte (1 : Int32) [(.int (0 : Int32))] (.int (0 : Int32)) := Arv.pad V1q (pad_rep [] (.int (0 : Int32)) 1)
  refine own_dup X1 hx (hb hby own_d_jdk_43_method_46_code_3) rfl rfl ?_
  refine own_iconst X1 hx (0 : Int32) (hb hby own_d_jdk_43_method_46_code_4) (by decide) rfl ?_
  refine own_iloadN X1 hx (hb hby own_d_jdk_43_method_46_code_5) rfl rfl ?_
  refine own_i2b X1 hx (hb hby own_d_jdk_43_method_46_code_6) rfl ?_
  refine own_stB X1 hx hZ e1 V1 ⟨by decide, by decide⟩ 0 rfl (Nat.le_of_ble_eq_true rfl) (own_lo8 ch) N0 g_b1 (hb hby own_d_jdk_43_method_46_code_7) rfl ?_
  intro T3 h3 X3 e3 W3 N3 V3
  have K4 := K2.wr W3 (Or.inr sz_b1)
  exact own_retA X3 hx hlocks hret rfl rfl (hb hby own_d_jdk_43_method_46_code_8) (by decide) (by decide) ⟨b1, _, rfl, N3, by rw [e3]; exact ⟨K4, g_b1, sz_b1, V3⟩⟩
set_option maxRecDepth 65536 in
set_option maxHeartbeats 40000000 in
theorem own_sbb (l : Launch) (Z : State) (a0 : Array Value) (hw : ∀ d ∈ tables_1, d.before a0 Z = true) (a1 b1 : Addr) (h0 : Heap) (n0 : Nat) (g_a1 : n0 ≤ a1) (E0 : Exa Z h0 a1 "java/lang/String") (F1 : Fld Z h0 a1 "java/lang/String" "value" "[B" .null) (F2 : Fld Z h0 a1 "java/lang/String" "coder" "B" (.int (0 : Int32))) :
    own_Met l (⟨"java/lang/String", "<init>", "([BB)V"⟩ : MethodName) jdk_42_method_151_code 3 none ({ frames := 1, cells := 0, slots := 0, locals := 12 } : Room) Z #[(.ref a1), (.ref b1), (.int (0 : Int32))] h0 (fun v h L => v = none ∧ Fr n0 L ∧ Keep h0 h [a1] ∧ Exa Z h a1 "java/lang/String" ∧ Fld Z h a1 "java/lang/String" "value" "[B" (.ref b1) ∧ Fld Z h a1 "java/lang/String" "coder" "B" (.int (0 : Int32))) := by
  refine own_met (plainFor_of_name own_pn_java_lang_String) ?_
  intro p e s m below meth c T0 hx hby hml hZ hown hnm hret hlocks X0 e0 hh0
  have ef : entryFrame m #[(.ref a1), (.ref b1), (.int (0 : Int32))] 3 = mkF m 0 #[.val (.ref a1), .val (.ref b1), .val (.int (0 : Int32))] [] := by first | (simp [entryFrame, mkF, argsToLocals, Value.category]; done) | rfl
  refine own_entry ef ?_
  have N0 := Fr.nil n0
  have K0 := Keep.refl h0 [a1]
  refine own_aloadN X0 hx (hb hby own_d_jdk_42_method_151_code_0) rfl rfl rfl ?_
  refine own_initO X0 hx hZ hown (hw _ (List.mem_of_getElem? (i := 11) rfl)) (hw _ (List.mem_of_getElem? (i := 12) rfl)) (hw _ (List.mem_of_getElem? (i := 13) rfl)) e0 (by rw [hml]; rfl) (hb hby own_d_jdk_42_method_151_code_1) 0 rfl (by decide) (by decide) rfl ?_
  intro T1 X1 e1
  refine own_aloadN X1 hx (hb hby own_d_jdk_42_method_151_code_4) rfl rfl rfl ?_
  refine own_aloadN X1 hx (hb hby own_d_jdk_42_method_151_code_5) rfl rfl rfl ?_
  refine own_putF X1 hx hZ hown (host := "") (Or.inl (hw _ (List.mem_of_getElem? (i := 28) rfl))) Via.refl e1 F1 E0 (Or.inr ⟨(hw _ (List.mem_of_getElem? (i := 29) rfl)), rfl, hnm⟩) (hw _ (List.mem_of_getElem? (i := 2) rfl)) (ty := (.array .byte)) (by decide) rfl rfl N0 g_a1 (hb hby own_d_jdk_42_method_151_code_6) rfl ?_
  intro T2 h2 X2 e2 W2 N2
  have K3 := K0.wr W2 (Or.inl (List.mem_of_getElem? (i := 0) rfl))
  have f4 := F1.same W2
  refine own_aloadN X2 hx (hb hby own_d_jdk_42_method_151_code_9) rfl rfl rfl ?_
  refine own_iloadN X2 hx (hb hby own_d_jdk_42_method_151_code_10) rfl rfl ?_
  have f5 := (F2.other W2 (Or.inr (slot_ne (Or.inr (hw _ (List.mem_of_getElem? (i := 27) rfl))) (Or.inr (hw _ (List.mem_of_getElem? (i := 29) rfl))) (by decide) (t := .byte) (t' := (.array .byte)) (by decide) (by decide))))
  have f6 := (E0.wr W2)
  refine own_putFN X2 hx hZ hown (hw _ (List.mem_of_getElem? (i := 26) rfl)) Via.refl e2 (.int (0 : Int32)) f5 f6 (Or.inr ⟨(hw _ (List.mem_of_getElem? (i := 27) rfl)), rfl, hnm⟩) (hw _ (List.mem_of_getElem? (i := 2) rfl)) (ty := .byte) (by decide) rfl rfl N2 g_a1 (hb hby own_d_jdk_42_method_151_code_11) rfl ?_
  intro T7 h7 X7 e7 W7 N7
  have K8 := K3.wr W7 (Or.inl (List.mem_of_getElem? (i := 0) rfl))
  have f9 := f5.same W7
  have f10 := (f6.wr W7)
  have f11 := (f4.other W7 (Or.inr (slot_ne (Or.inr (hw _ (List.mem_of_getElem? (i := 29) rfl))) (Or.inr (hw _ (List.mem_of_getElem? (i := 27) rfl))) (by decide) (t := (.array .byte)) (t' := .byte) (by decide) (by decide))))
  exact own_ret X7 hx hlocks hret (hb hby own_d_jdk_42_method_151_code_14) (by decide) (by decide) ⟨rfl, N7, by rw [e7]; exact ⟨K8, f10, f11, f9⟩⟩
set_option maxRecDepth 65536 in
set_option maxHeartbeats 40000000 in
theorem own_valueOf (l : Launch) (Z : State) (a0 : Array Value) (hw : ∀ d ∈ tables_1, d.before a0 Z = true) (ch zc : Int32) (h0 : Heap) (n0 : Nat) (O0 : Old Z n0 h0) (SC : Sta Z Z.heap "java/lang/String" "COMPACT_STRINGS" "Z" (.int zc)) (hzc : ¬ zc = 0) (hc : ¬ ch < 0 ∧ ¬ (255 : Int32) < ch) :
    own_Met l (⟨"java/lang/String", "valueOf", "(C)Ljava/lang/String;"⟩ : MethodName) jdk_42_method_139_code 1 (some (.object "java/lang/String")) ({ frames := 2, cells := 2, slots := 5, locals := 27 } : Room) Z #[(.int ch)] h0 (fun v h L => ∃ a : Addr, v = some (.ref a) ∧ Fr n0 L ∧ Keep h0 h [] ∧ n0 ≤ a ∧ h0.size ≤ a ∧ own_Str Z h a [ch]) := by
  refine own_met (plainFor_of_name own_pn_java_lang_String) ?_
  intro p e s m below meth c T0 hx hby hml hZ hown hnm hret hlocks X0 e0 hh0
  have ef : entryFrame m #[(.int ch)] 1 = mkF m 0 #[.val (.int ch)] [] := by first | (simp [entryFrame, mkF, argsToLocals, Value.category]; done) | rfl
  refine own_entry ef ?_
  have N0 := Fr.nil n0
  have K0 := Keep.refl h0 []
  have Z0 : n0 ≤ h0.size := O0.1 ▸ O0.2.1
  refine own_getS X0 hx hZ hown (host := "") (Or.inl (hw _ (List.mem_of_getElem? (i := 14) rfl))) Via.refl e0 (SC.ext O0.2) (hb hby own_d_jdk_42_method_139_code_0) rfl ?_
  intro T1 X1 e1
  refine own_ifF X1 hx (hb hby own_d_jdk_42_method_139_code_3) rfl (feq hzc).1 ?_
  refine own_iloadN X1 hx (hb hby own_d_jdk_42_method_139_code_6) rfl rfl ?_
  refine own_static X1 hx hZ (y := (⟨"java/lang/StringLatin1", "canEncode", "(C)Z"⟩ : MethodName)) hown (hw _ (List.mem_of_getElem? (i := 36) rfl)) (hw _ (List.mem_of_getElem? (i := 37) rfl)) (hw _ (List.mem_of_getElem? (i := 38) rfl)) (hw _ (List.mem_of_getElem? (i := 39) rfl)) (by decide) e1 (by decide) (W := 0) (by decide) (by decide) (by decide) [(.int ch)] [] (by rw [hml]; rfl) (own_canEnc l Z a0 hw ch h0 n0 hc) own_pd1 rfl rfl rfl (hb hby own_d_jdk_42_method_139_code_7) rfl ?_
  intro v2 T2 L2 X2 hQ2
  obtain ⟨rfl, Nq2, hh2⟩ := hQ2
  have N2 := Fr.app N0 Nq2
  show own_Ends p e below _ (T2.setTop (mkF m 10 #[.val (.int ch)] [(.int (1 : Int32))]))
  refine own_ifF X2 hx (hb hby own_d_jdk_42_method_139_code_10) rfl (by decide) ?_
  refine own_new X2 hx hZ hown (hw _ (List.mem_of_getElem? (i := 40) rfl)) (hw _ (List.mem_of_getElem? (i := 2) rfl)) (hw _ (List.mem_of_getElem? (i := 3) rfl)) hh2 (hb hby own_d_jdk_42_method_139_code_13) (by decide) (by decide) rfl ?_
  intro T3 h3 b3 X3 e3 g3 E3 A3 D3
  have g_b3 : n0 ≤ b3 := Nat.le_trans (own_oz O0) (Nat.le_of_eq g3.symm)
  have sz_b3 : h0.size ≤ b3 := Nat.le_trans K0.1 (Nat.le_of_eq g3.symm)
  have K4 := K0.ext E3
  have Fb3_coder : Fld Z h3 b3 "java/lang/String" "coder" "B" (.int (0 : Int32)) := D3 (Or.inr (hw _ (List.mem_of_getElem? (i := 27) rfl))) (ty := .byte) (by decide)
  have Fb3_value : Fld Z h3 b3 "java/lang/String" "value" "[B" .null := D3 (Or.inr (hw _ (List.mem_of_getElem? (i := 29) rfl))) (ty := (.array .byte)) (by decide)
  refine own_dup X3 hx (hb hby own_d_jdk_42_method_139_code_16) rfl rfl ?_
  refine own_iloadN X3 hx (hb hby own_d_jdk_42_method_139_code_17) rfl rfl ?_
  have f5 := (O0.ext E3)
  refine own_static X3 hx hZ (y := (⟨"java/lang/StringLatin1", "toBytes", "(C)[B"⟩ : MethodName)) hown (hw _ (List.mem_of_getElem? (i := 41) rfl)) (hw _ (List.mem_of_getElem? (i := 42) rfl)) (hw _ (List.mem_of_getElem? (i := 38) rfl)) (hw _ (List.mem_of_getElem? (i := 43) rfl)) (by decide) e3 (by decide) (W := 2) (by decide) (by decide) (by decide) [(.int ch)] [(.ref b3), (.ref b3)] (by rw [hml]; rfl) (own_toBytes l Z a0 hw ch h3 n0 (own_oz f5)) own_pd2 rfl rfl rfl (hb hby own_d_jdk_42_method_139_code_18) rfl ?_
  intro v6 T6 L6 X6 hQ6
  obtain ⟨b6, k6, rfl, Nq6, Kq6, g_b6, sz_b6, V6⟩ := hQ6
  have sz_b6 := Nat.le_trans K4.1 sz_b6
  have N6 := Fr.app N2 Nq6
  have K7 := K4.trans Kq6 all0
  show own_Ends p e below _ (T6.setTop (mkF m 21 #[.val (.int ch)] [(.ref b6), (.ref b3), (.ref b3)]))
  refine own_iconst X6 hx (0 : Int32) (hb hby own_d_jdk_42_method_139_code_21) (by decide) rfl ?_
  have f8 := (A3.keep Kq6)
  have f9 := (Fb3_value.keep Kq6 nin0)
  have f10 := (Fb3_coder.keep Kq6 nin0)
  refine own_special X6 hx hZ (y := (⟨"java/lang/String", "<init>", "([BB)V"⟩ : MethodName)) rfl hown (hw _ (List.mem_of_getElem? (i := 44) rfl)) (hw _ (List.mem_of_getElem? (i := 45) rfl)) (hw _ (List.mem_of_getElem? (i := 3) rfl)) (hw _ (List.mem_of_getElem? (i := 46) rfl)) (by decide) rfl (by decide) (W := 1) (by decide) (by decide) (by decide) [(.ref b6), (.int (0 : Int32))] [(.ref b3)] (by rw [hml]; rfl) (a := b3) (own_sbb l Z a0 hw b3 b6 T6.heap n0 g_b3 f8 f9 f10) own_pd3 rfl rfl rfl (hb hby own_d_jdk_42_method_139_code_22) rfl ?_
  intro v11 T11 L11 X11 hQ11
  obtain ⟨rfl, Nq11, Kq11, Es11, Vs11, Cs11⟩ := hQ11
  have N11 := Fr.app N6 Nq11
  have K12 := K7.trans Kq11 (allS (Or.inr sz_b3) all0)
  show own_Ends p e below _ (T11.setTop (mkF m 25 #[.val (.int ch)] [(.ref b3)]))
  have f13 := (V6.keep Kq11 (ninS (Ne.symm (Exa.neArv f8 V6 (hw _ (List.mem_of_getElem? (i := 2) rfl)))) nin0))
  exact own_retA X11 hx hlocks hret rfl rfl (hb hby own_d_jdk_42_method_139_code_25) (by decide) (by decide) ⟨b3, rfl, N11, by exact ⟨K12, g_b3, sz_b3, _, _, _, _, _, Es11, Vs11, Cs11, f13, StrChars.Road.codOf (cs := [ch]) (n := 1) rfl (own_c2 hc.2 own_c0), own_up (own_c2 hc own_c0), (Nat.le_of_ble_eq_true rfl)⟩⟩
set_option maxRecDepth 65536 in
set_option maxHeartbeats 40000000 in
theorem own_rec (l : Launch) (Z : State) (a0 : Array Value) (hw : ∀ d ∈ tables_1, d.before a0 Z = true) (a1 : Addr) (h0 : Heap) (n0 : Nat)  :
    own_Met l (⟨"java/lang/Record", "<init>", "()V"⟩ : MethodName) jdk_30_method_1_code 1 none ({ frames := 1, cells := 0, slots := 0, locals := 12 } : Room) Z #[(.ref a1)] h0 (fun v h L => v = none ∧ Fr n0 L ∧ h = h0) := by
  refine own_met (plainFor_of_name own_pn_java_lang_Record) ?_
  intro p e s m below meth c T0 hx hby hml hZ hown hnm hret hlocks X0 e0 hh0
  have ef : entryFrame m #[(.ref a1)] 1 = mkF m 0 #[.val (.ref a1)] [] := by first | (simp [entryFrame, mkF, argsToLocals, Value.category]; done) | rfl
  refine own_entry ef ?_
  have N0 := Fr.nil n0
  refine own_aloadN X0 hx (hb hby own_d_jdk_30_method_1_code_0) rfl rfl rfl ?_
  refine own_initO X0 hx hZ hown (hw _ (List.mem_of_getElem? (i := 82) rfl)) (hw _ (List.mem_of_getElem? (i := 12) rfl)) (hw _ (List.mem_of_getElem? (i := 13) rfl)) e0 (by rw [hml]; rfl) (hb hby own_d_jdk_30_method_1_code_1) 0 rfl (by decide) (by decide) rfl ?_
  intro T1 X1 e1
  exact own_ret X1 hx hlocks hret (hb hby own_d_jdk_30_method_1_code_4) (by decide) (by decide) ⟨rfl, N0, e1⟩
def own_AL (Z : State) (h : Heap) (a ed : Addr) (m n : Int32) : Prop := Exa Z h a "java/util/ArrayList" ∧ Fld Z h a "java/util/AbstractList" "modCount" "I" (.int m) ∧ Fld Z h a "java/util/ArrayList" "elementData" "[Ljava/lang/Object;" (.ref ed) ∧ Fld Z h a "java/util/ArrayList" "size" "I" (.int n)
set_option maxRecDepth 65536 in
set_option maxHeartbeats 40000000 in
theorem own_aci (l : Launch) (Z : State) (a0 : Array Value) (hw : ∀ d ∈ tables_1, d.before a0 Z = true) (a1 : Addr) (h0 : Heap) (n0 : Nat)  :
    own_Met l (⟨"java/util/AbstractCollection", "<init>", "()V"⟩ : MethodName) jdk_22_method_1_code 1 none ({ frames := 1, cells := 0, slots := 0, locals := 12 } : Room) Z #[(.ref a1)] h0 (fun v h L => v = none ∧ Fr n0 L ∧ h = h0) := by
  refine own_met (plainFor_of_name own_pn_java_util_AbstractCollection) ?_
  intro p e s m below meth c T0 hx hby hml hZ hown hnm hret hlocks X0 e0 hh0
  have ef : entryFrame m #[(.ref a1)] 1 = mkF m 0 #[.val (.ref a1)] [] := by first | (simp [entryFrame, mkF, argsToLocals, Value.category]; done) | rfl
  refine own_entry ef ?_
  have N0 := Fr.nil n0
  refine own_aloadN X0 hx (hb hby own_d_jdk_22_method_1_code_0) rfl rfl rfl ?_
  refine own_initO X0 hx hZ hown (hw _ (List.mem_of_getElem? (i := 65) rfl)) (hw _ (List.mem_of_getElem? (i := 12) rfl)) (hw _ (List.mem_of_getElem? (i := 13) rfl)) e0 (by rw [hml]; rfl) (hb hby own_d_jdk_22_method_1_code_1) 0 rfl (by decide) (by decide) rfl ?_
  intro T1 X1 e1
  exact own_ret X1 hx hlocks hret (hb hby own_d_jdk_22_method_1_code_4) (by decide) (by decide) ⟨rfl, N0, e1⟩
set_option maxRecDepth 65536 in
set_option maxHeartbeats 40000000 in
theorem own_abl (l : Launch) (Z : State) (a0 : Array Value) (hw : ∀ d ∈ tables_1, d.before a0 Z = true) (a1 : Addr) (h0 : Heap) (n0 : Nat) (g_a1 : n0 ≤ a1) (E0 : Exa Z h0 a1 "java/util/ArrayList") (F1 : Fld Z h0 a1 "java/util/AbstractList" "modCount" "I" (.int (0 : Int32))) (F2 : Fld Z h0 a1 "java/util/ArrayList" "elementData" "[Ljava/lang/Object;" .null) (F3 : Fld Z h0 a1 "java/util/ArrayList" "size" "I" (.int (0 : Int32))) :
    own_Met l (⟨"java/util/AbstractList", "<init>", "()V"⟩ : MethodName) jdk_39_method_1_code 1 none ({ frames := 2, cells := 0, slots := 0, locals := 24 } : Room) Z #[(.ref a1)] h0 (fun v h L => v = none ∧ Fr n0 L ∧ Keep h0 h [a1] ∧ Exa Z h a1 "java/util/ArrayList" ∧ Fld Z h a1 "java/util/AbstractList" "modCount" "I" (.int (0 : Int32)) ∧ Fld Z h a1 "java/util/ArrayList" "elementData" "[Ljava/lang/Object;" .null ∧ Fld Z h a1 "java/util/ArrayList" "size" "I" (.int (0 : Int32))) := by
  refine own_met (plainFor_of_name own_pn_java_util_AbstractList) ?_
  intro p e s m below meth c T0 hx hby hml hZ hown hnm hret hlocks X0 e0 hh0
  have ef : entryFrame m #[(.ref a1)] 1 = mkF m 0 #[.val (.ref a1)] [] := by first | (simp [entryFrame, mkF, argsToLocals, Value.category]; done) | rfl
  refine own_entry ef ?_
  have N0 := Fr.nil n0
  have K0 := Keep.refl h0 [a1]
  refine own_aloadN X0 hx (hb hby own_d_jdk_39_method_1_code_0) rfl rfl rfl ?_
  refine own_special X0 hx hZ (y := (⟨"java/util/AbstractCollection", "<init>", "()V"⟩ : MethodName)) rfl hown (hw _ (List.mem_of_getElem? (i := 59) rfl)) (hw _ (List.mem_of_getElem? (i := 60) rfl)) (hw _ (List.mem_of_getElem? (i := 63) rfl)) (hw _ (List.mem_of_getElem? (i := 64) rfl)) (by decide) e0 (by decide) (W := 0) (by decide) (by decide) (by decide) [] [] (by rw [hml]; rfl) (a := a1) (own_aci l Z a0 hw a1 h0 n0) own_pd4 rfl rfl rfl (hb hby own_d_jdk_39_method_1_code_1) rfl ?_
  intro v1 T1 L1 X1 hQ1
  obtain ⟨rfl, Nq1, hh1⟩ := hQ1
  have N1 := Fr.app N0 Nq1
  show own_Ends p e below _ (T1.setTop (mkF m 4 #[.val (.ref a1)] []))
  refine own_aloadN X1 hx (hb hby own_d_jdk_39_method_1_code_4) rfl rfl rfl ?_
  refine own_iconst X1 hx (0 : Int32) (hb hby own_d_jdk_39_method_1_code_5) (by decide) rfl ?_
  refine own_putF X1 hx hZ hown (host := "") (Or.inl (hw _ (List.mem_of_getElem? (i := 66) rfl))) Via.refl hh1 F1 E0 (Or.inl (hw _ (List.mem_of_getElem? (i := 67) rfl))) (hw _ (List.mem_of_getElem? (i := 48) rfl)) (ty := .int) (by decide) rfl rfl N1 g_a1 (hb hby own_d_jdk_39_method_1_code_6) rfl ?_
  intro T2 h2 X2 e2 W2 N2
  have K3 := K0.wr W2 (Or.inl (List.mem_of_getElem? (i := 0) rfl))
  have f4 := F1.same W2
  have f5 := (E0.wr W2)
  have f6 := (F2.other W2 (Or.inr (slot_ne (Or.inl (hw _ (List.mem_of_getElem? (i := 70) rfl))) (Or.inl (hw _ (List.mem_of_getElem? (i := 67) rfl))) (by decide) (t := (.array (.object "java/lang/Object"))) (t' := .int) (by decide) (by decide))))
  have f7 := (F3.other W2 (Or.inr (slot_ne (Or.inl (hw _ (List.mem_of_getElem? (i := 102) rfl))) (Or.inl (hw _ (List.mem_of_getElem? (i := 67) rfl))) (by decide) (t := .int) (t' := .int) (by decide) (by decide))))
  exact own_ret X2 hx hlocks hret (hb hby own_d_jdk_39_method_1_code_9) (by decide) (by decide) ⟨rfl, N2, by rw [e2]; exact ⟨K3, f5, f4, f6, f7⟩⟩
set_option maxRecDepth 65536 in
set_option maxHeartbeats 40000000 in
theorem own_ali (l : Launch) (Z : State) (a0 : Array Value) (hw : ∀ d ∈ tables_1, d.before a0 Z = true) (a1 de : Addr) (kd : ClassId) (h0 : Heap) (n0 : Nat) (O0 : Old Z n0 h0) (g_a1 : n0 ≤ a1) (SD : Sta Z Z.heap "java/util/ArrayList" "DEFAULTCAPACITY_EMPTY_ELEMENTDATA" "[Ljava/lang/Object;" (.ref de)) (VD : Arv Z Z.heap de kd (.object "java/lang/Object") (0 : Int32) [] .null) (E0 : Exa Z h0 a1 "java/util/ArrayList") (D0 : (∀ {O nm d : String} {ty : FieldType}, Laid Z a0 "java/util/ArrayList" O nm d → parseFieldDescriptor d = some ty → Fld Z h0 a1 O nm d (defaultValue ty))) :
    own_Met l (⟨"java/util/ArrayList", "<init>", "()V"⟩ : MethodName) jdk_38_method_2_code 1 none ({ frames := 3, cells := 0, slots := 0, locals := 36 } : Room) Z #[(.ref a1)] h0 (fun v h L => v = none ∧ Fr n0 L ∧ Keep h0 h [a1] ∧ own_AL Z h a1 de 0 0) := by
  refine own_met (plainFor_of_name own_pn_java_util_ArrayList) ?_
  intro p e s m below meth c T0 hx hby hml hZ hown hnm hret hlocks X0 e0 hh0
  have ef : entryFrame m #[(.ref a1)] 1 = mkF m 0 #[.val (.ref a1)] [] := by first | (simp [entryFrame, mkF, argsToLocals, Value.category]; done) | rfl
  refine own_entry ef ?_
  have N0 := Fr.nil n0
  have K0 := Keep.refl h0 [a1]
  have Fa1_modCount : Fld Z h0 a1 "java/util/AbstractList" "modCount" "I" (.int (0 : Int32)) := D0 (Or.inl (hw _ (List.mem_of_getElem? (i := 67) rfl))) (ty := .int) (by decide)
  have Fa1_elementData : Fld Z h0 a1 "java/util/ArrayList" "elementData" "[Ljava/lang/Object;" .null := D0 (Or.inl (hw _ (List.mem_of_getElem? (i := 70) rfl))) (ty := (.array (.object "java/lang/Object"))) (by decide)
  have Fa1_size : Fld Z h0 a1 "java/util/ArrayList" "size" "I" (.int (0 : Int32)) := D0 (Or.inl (hw _ (List.mem_of_getElem? (i := 102) rfl))) (ty := .int) (by decide)
  refine own_aloadN X0 hx (hb hby own_d_jdk_38_method_2_code_0) rfl rfl rfl ?_
  refine own_special X0 hx hZ (y := (⟨"java/util/AbstractList", "<init>", "()V"⟩ : MethodName)) rfl hown (hw _ (List.mem_of_getElem? (i := 53) rfl)) (hw _ (List.mem_of_getElem? (i := 54) rfl)) (hw _ (List.mem_of_getElem? (i := 57) rfl)) (hw _ (List.mem_of_getElem? (i := 58) rfl)) (by decide) e0 (by decide) (W := 0) (by decide) (by decide) (by decide) [] [] (by rw [hml]; rfl) (a := a1) (own_abl l Z a0 hw a1 h0 n0 g_a1 E0 Fa1_modCount Fa1_elementData Fa1_size) own_pd4 rfl rfl rfl (hb hby own_d_jdk_38_method_2_code_1) rfl ?_
  intro v1 T1 L1 X1 hQ1
  obtain ⟨rfl, Nq1, Kq1, El1, Ml1, Dl1, Sl1⟩ := hQ1
  have N1 := Fr.app N0 Nq1
  have K2 := K0.trans Kq1 (allS (Or.inl (List.mem_of_getElem? (i := 0) rfl)) all0)
  show own_Ends p e below _ (T1.setTop (mkF m 4 #[.val (.ref a1)] []))
  refine own_aloadN X1 hx (hb hby own_d_jdk_38_method_2_code_4) rfl rfl rfl ?_
  have f3 := (O0.keep Kq1 (allS g_a1 all0))
  refine own_getS X1 hx hZ hown (host := "") (Or.inl (hw _ (List.mem_of_getElem? (i := 68) rfl))) Via.refl rfl (SD.ext f3.2) (hb hby own_d_jdk_38_method_2_code_5) rfl ?_
  intro T4 X4 e4
  refine own_putF X4 hx hZ hown (host := "") (Or.inl (hw _ (List.mem_of_getElem? (i := 69) rfl))) Via.refl e4 Dl1 El1 (Or.inl (hw _ (List.mem_of_getElem? (i := 70) rfl))) (hw _ (List.mem_of_getElem? (i := 48) rfl)) (ty := (.array (.object "java/lang/Object"))) (by decide) rfl rfl N1 g_a1 (hb hby own_d_jdk_38_method_2_code_8) rfl ?_
  intro T5 h5 X5 e5 W5 N5
  have K6 := K2.wr W5 (Or.inl (List.mem_of_getElem? (i := 0) rfl))
  have f7 := Dl1.same W5
  have f8 := (El1.wr W5)
  have f9 := (Ml1.other W5 (Or.inr (slot_ne (Or.inl (hw _ (List.mem_of_getElem? (i := 67) rfl))) (Or.inl (hw _ (List.mem_of_getElem? (i := 70) rfl))) (by decide) (t := .int) (t' := (.array (.object "java/lang/Object"))) (by decide) (by decide))))
  have f10 := (Sl1.other W5 (Or.inr (slot_ne (Or.inl (hw _ (List.mem_of_getElem? (i := 102) rfl))) (Or.inl (hw _ (List.mem_of_getElem? (i := 70) rfl))) (by decide) (t := .int) (t' := (.array (.object "java/lang/Object"))) (by decide) (by decide))))
  exact own_ret X5 hx hlocks hret (hb hby own_d_jdk_38_method_2_code_11) (by decide) (by decide) ⟨rfl, N5, by rw [e5]; exact ⟨K6, ⟨f8, f9, f7, f10⟩⟩⟩
set_option maxRecDepth 65536 in
set_option maxHeartbeats 40000000 in
theorem own_max (l : Launch) (Z : State) (a0 : Array Value) (hw : ∀ d ∈ tables_1, d.before a0 Z = true) (p1 p2 : Int32) (h0 : Heap) (n0 : Nat) (hp : ¬ p1 < p2) :
    own_Met l (⟨"java/lang/Math", "max", "(II)I"⟩ : MethodName) jdk_29_method_65_code 2 (some .int) ({ frames := 0, cells := 0, slots := 0, locals := 0 } : Room) Z #[(.int p1), (.int p2)] h0 (fun v h L => v = some (.int p1) ∧ Fr n0 L ∧ h = h0) := by
  refine own_met (Jvm.Free.JP.mathPlain rfl (by decide +kernel)) ?_
  intro p e s m below meth c T0 hx hby hml hZ hown hnm hret hlocks X0 e0 hh0
  have ef : entryFrame m #[(.int p1), (.int p2)] 2 = mkF m 0 #[.val (.int p1), .val (.int p2)] [] := by first | (simp [entryFrame, mkF, argsToLocals, Value.category]; done) | rfl
  refine own_entry ef ?_
  have N0 := Fr.nil n0
  refine own_iloadN X0 hx (hb hby own_d_jdk_29_method_65_code_0) rfl rfl ?_
  refine own_iloadN X0 hx (hb hby own_d_jdk_29_method_65_code_1) rfl rfl ?_
  refine own_icmpF X0 hx (hb hby own_d_jdk_29_method_65_code_2) rfl (flt hp).1 ?_
  refine own_iloadN X0 hx (hb hby own_d_jdk_29_method_65_code_5) rfl rfl ?_
  refine own_goto X0 hx (hb hby own_d_jdk_29_method_65_code_6) (by decide) rfl ?_
  exact own_retI X0 hx hlocks hret (hb hby own_d_jdk_29_method_65_code_10) (by decide) (by decide) ⟨rfl, N0, e0⟩
set_option maxRecDepth 65536 in
set_option maxHeartbeats 40000000 in
theorem own_growI (l : Launch) (Z : State) (a0 : Array Value) (hw : ∀ d ∈ tables_1, d.before a0 Z = true) (a1 de : Addr) (kd : ClassId) (mc : Int32) (h0 : Heap) (n0 : Nat) (O0 : Old Z n0 h0) (g_a1 : n0 ≤ a1) (SD : Sta Z Z.heap "java/util/ArrayList" "DEFAULTCAPACITY_EMPTY_ELEMENTDATA" "[Ljava/lang/Object;" (.ref de)) (VD : Arv Z Z.heap de kd (.object "java/lang/Object") (0 : Int32) [] .null) (L0 : own_AL Z h0 a1 de mc 0) :
    own_Met l (⟨"java/util/ArrayList", "grow", "(I)[Ljava/lang/Object;"⟩ : MethodName) jdk_38_method_6_code 4 (some (.array (.object "java/lang/Object"))) ({ frames := 1, cells := 1, slots := 10, locals := 14 } : Room) Z #[(.ref a1), (.int (1 : Int32))] h0 (fun v h L => ∃ (b : Addr) (k : ClassId), v = some (.ref b) ∧ Fr n0 L ∧ Keep h0 h [a1] ∧ n0 ≤ b ∧ h0.size ≤ b ∧ own_AL Z h a1 b mc 0 ∧ Arv Z h b k (.object "java/lang/Object") (10 : Int32) [.null, .null, .null, .null, .null, .null, .null, .null, .null, .null] .null ∧ Ovr Z k "java/lang/Object") := by
  refine own_met (plainFor_of_name own_pn_java_util_ArrayList) ?_
  intro p e s m below meth c T0 hx hby hml hZ hown hnm hret hlocks X0 e0 hh0
  have ef : entryFrame m #[(.ref a1), (.int (1 : Int32))] 4 = mkF m 0 #[.val (.ref a1), .val (.int (1 : Int32)), .unset, .unset] [] := by first | (simp [entryFrame, mkF, argsToLocals, Value.category]; done) | rfl
  refine own_entry ef ?_
  have N0 := Fr.nil n0
  have K0 := Keep.refl h0 [a1]
  obtain ⟨El0, Ml0, Dl0, Sl0⟩ := L0
  refine own_aloadN X0 hx (hb hby own_d_jdk_38_method_6_code_0) rfl rfl rfl ?_
  refine own_getF X0 hx hZ hown (host := "") (Or.inl (hw _ (List.mem_of_getElem? (i := 69) rfl))) Via.refl e0 Dl0 (hb hby own_d_jdk_38_method_6_code_1) rfl ?_
  intro T1 X1 e1
  refine own_arraylength X1 hx hZ e1 (VD.ext O0.2) (hb hby own_d_jdk_38_method_6_code_4) rfl ?_
  refine own_istoreN X1 hx #[.val (.ref a1), .val (.int (1 : Int32)), .val (.int (0 : Int32)), .unset] (hb hby own_d_jdk_38_method_6_code_5) rfl rfl ?_
  refine own_iloadN X1 hx (hb hby own_d_jdk_38_method_6_code_6) rfl rfl ?_
  refine own_ifF X1 hx (hb hby own_d_jdk_38_method_6_code_7) rfl (by decide) ?_
  refine own_aloadN X1 hx (hb hby own_d_jdk_38_method_6_code_10) rfl rfl rfl ?_
  refine own_getF X1 hx hZ hown (host := "") (Or.inl (hw _ (List.mem_of_getElem? (i := 69) rfl))) Via.refl e1 Dl0 (hb hby own_d_jdk_38_method_6_code_11) rfl ?_
  intro T2 X2 e2
  refine own_getS X2 hx hZ hown (host := "") (Or.inl (hw _ (List.mem_of_getElem? (i := 68) rfl))) Via.refl e2 (SD.ext O0.2) (hb hby own_d_jdk_38_method_6_code_14) rfl ?_
  intro T3 X3 e3
  refine own_acmp_eq X3 hx (hb hby own_d_jdk_38_method_6_code_17) (by decide) rfl rfl (fun hc17_4 => ?_) (fun hc17_4 => absurd rfl hc17_4)
  refine own_aloadN X3 hx (hb hby own_d_jdk_38_method_6_code_45) rfl rfl rfl ?_
  refine own_bipush X3 hx (10 : Int32) (hb hby own_d_jdk_38_method_6_code_46) (by decide) rfl ?_
  refine own_iloadN X3 hx (hb hby own_d_jdk_38_method_6_code_48) rfl rfl ?_
  refine own_static X3 hx hZ (y := (⟨"java/lang/Math", "max", "(II)I"⟩ : MethodName)) hown (hw _ (List.mem_of_getElem? (i := 118) rfl)) (hw _ (List.mem_of_getElem? (i := 119) rfl)) (hw _ (List.mem_of_getElem? (i := 120) rfl)) (hw _ (List.mem_of_getElem? (i := 121) rfl)) (by decide) e3 (by decide) (W := 1) (by decide) (by decide) (by decide) [(.int (10 : Int32)), (.int (1 : Int32))] [(.ref a1)] (by rw [hml]; rfl) (own_max l Z a0 hw (10 : Int32) (1 : Int32) h0 n0 (by decide)) own_pd5 rfl rfl rfl (hb hby own_d_jdk_38_method_6_code_49) rfl ?_
  intro v5 T5 L5 X5 hQ5
  obtain ⟨rfl, Nq5, hh5⟩ := hQ5
  have N5 := Fr.app N0 Nq5
  show own_Ends p e below _ (T5.setTop (mkF m 52 #[.val (.ref a1), .val (.int (1 : Int32)), .val (.int (0 : Int32)), .unset] [(.int (10 : Int32)), (.ref a1)]))
  refine own_newR X5 hx hZ hown (hw _ (List.mem_of_getElem? (i := 122) rfl)) (hw _ (List.mem_of_getElem? (i := 123) rfl)) hh5 (hb hby own_d_jdk_38_method_6_code_52) (by decide) 10 (by decide) (by decide) (by decide) (by decide) rfl ?_
  intro T6 h6 b6 k6 X6 e6 g6 E6 V6q Ov6
  have g_b6 : n0 ≤ b6 := Nat.le_trans (own_oz O0) (Nat.le_of_eq g6.symm)
  have sz_b6 : h0.size ≤ b6 := Nat.le_trans K0.1 (Nat.le_of_eq g6.symm)
  have K7 := K0.ext E6
  have V6 : Arv Z h6 b6 k6 (.object "java/lang/Object") (10 : Int32) [.null, .null, .null, .null, .null, .null, .null, .null, .null, .null] .null := Arv.pad V6q (pad_rep [] .null 10)
  refine own_dup_x1 X6 hx (hb hby own_d_jdk_38_method_6_code_55) rfl rfl rfl ?_
  have f8 := (Dl0.ext E6)
  have f9 := (El0.ext E6)
  refine own_putF X6 hx hZ hown (host := "") (Or.inl (hw _ (List.mem_of_getElem? (i := 69) rfl))) Via.refl e6 f8 f9 (Or.inl (hw _ (List.mem_of_getElem? (i := 70) rfl))) (hw _ (List.mem_of_getElem? (i := 48) rfl)) (ty := (.array (.object "java/lang/Object"))) (by decide) rfl rfl N5 g_a1 (hb hby own_d_jdk_38_method_6_code_56) rfl ?_
  intro T10 h10 X10 e10 W10 N10
  have K11 := K7.wr W10 (Or.inl (List.mem_of_getElem? (i := 0) rfl))
  have f12 := f8.same W10
  have f13 := (f9.wr W10)
  have f14 := ((Ml0.ext E6).other W10 (Or.inr (slot_ne (Or.inl (hw _ (List.mem_of_getElem? (i := 67) rfl))) (Or.inl (hw _ (List.mem_of_getElem? (i := 70) rfl))) (by decide) (t := .int) (t' := (.array (.object "java/lang/Object"))) (by decide) (by decide))))
  have f15 := ((Sl0.ext E6).other W10 (Or.inr (slot_ne (Or.inl (hw _ (List.mem_of_getElem? (i := 102) rfl))) (Or.inl (hw _ (List.mem_of_getElem? (i := 70) rfl))) (by decide) (t := .int) (t' := (.array (.object "java/lang/Object"))) (by decide) (by decide))))
  have f16 := (V6.other W10 (Ne.symm (Nat.ne_of_lt (Nat.lt_of_lt_of_le El0.lt (Nat.le_of_eq g6.symm)))))
  exact own_retA X10 hx hlocks hret rfl rfl (hb hby own_d_jdk_38_method_6_code_59) (by decide) (by decide) ⟨b6, _, rfl, N10, by rw [e10]; exact ⟨K11, g_b6, sz_b6, ⟨f13, f14, f12, f15⟩, f16, Ov6⟩⟩
set_option maxRecDepth 65536 in
set_option maxHeartbeats 40000000 in
theorem own_grow0 (l : Launch) (Z : State) (a0 : Array Value) (hw : ∀ d ∈ tables_1, d.before a0 Z = true) (a1 de : Addr) (kd : ClassId) (mc : Int32) (h0 : Heap) (n0 : Nat) (O0 : Old Z n0 h0) (g_a1 : n0 ≤ a1) (SD : Sta Z Z.heap "java/util/ArrayList" "DEFAULTCAPACITY_EMPTY_ELEMENTDATA" "[Ljava/lang/Object;" (.ref de)) (VD : Arv Z Z.heap de kd (.object "java/lang/Object") (0 : Int32) [] .null) (L0 : own_AL Z h0 a1 de mc 0) :
    own_Met l (⟨"java/util/ArrayList", "grow", "()[Ljava/lang/Object;"⟩ : MethodName) jdk_38_method_7_code 1 (some (.array (.object "java/lang/Object"))) ({ frames := 2, cells := 1, slots := 10, locals := 29 } : Room) Z #[(.ref a1)] h0 (fun v h L => ∃ (b : Addr) (k : ClassId), v = some (.ref b) ∧ Fr n0 L ∧ Keep h0 h [a1] ∧ n0 ≤ b ∧ h0.size ≤ b ∧ own_AL Z h a1 b mc 0 ∧ Arv Z h b k (.object "java/lang/Object") (10 : Int32) [.null, .null, .null, .null, .null, .null, .null, .null, .null, .null] .null ∧ Ovr Z k "java/lang/Object") := by
  refine own_met (plainFor_of_name own_pn_java_util_ArrayList) ?_
  intro p e s m below meth c T0 hx hby hml hZ hown hnm hret hlocks X0 e0 hh0
  have ef : entryFrame m #[(.ref a1)] 1 = mkF m 0 #[.val (.ref a1)] [] := by first | (simp [entryFrame, mkF, argsToLocals, Value.category]; done) | rfl
  refine own_entry ef ?_
  have N0 := Fr.nil n0
  have K0 := Keep.refl h0 [a1]
  obtain ⟨El0, Ml0, Dl0, Sl0⟩ := L0
  refine own_aloadN X0 hx (hb hby own_d_jdk_38_method_7_code_0) rfl rfl rfl ?_
  refine own_aloadN X0 hx (hb hby own_d_jdk_38_method_7_code_1) rfl rfl rfl ?_
  refine own_getF X0 hx hZ hown (host := "") (Or.inl (hw _ (List.mem_of_getElem? (i := 101) rfl))) Via.refl e0 Sl0 (hb hby own_d_jdk_38_method_7_code_2) rfl ?_
  intro T1 X1 e1
  refine own_iconst X1 hx (1 : Int32) (hb hby own_d_jdk_38_method_7_code_5) (by decide) rfl ?_
  refine own_iadd X1 hx (hb hby own_d_jdk_38_method_7_code_6) rfl ?_
  rw [show ((0 : Int32) + (1 : Int32)) = (1 : Int32) from by decide]
  refine own_private X1 hx hZ (y := (⟨"java/util/ArrayList", "grow", "(I)[Ljava/lang/Object;"⟩ : MethodName)) hown (hw _ (List.mem_of_getElem? (i := 113) rfl)) (own_nf (z := (⟨"java/util/ArrayList", "add", "(Ljava/lang/Object;)Z"⟩ : MethodName)) hZ (hw _ (List.mem_of_getElem? (i := 97) rfl))) (hw _ (List.mem_of_getElem? (i := 114) rfl)) (hw _ (List.mem_of_getElem? (i := 115) rfl)) (hw _ (List.mem_of_getElem? (i := 49) rfl)) (hw _ (List.mem_of_getElem? (i := 117) rfl)) (by decide) e1 (by decide) (W := 0) (by decide) (by decide) (by decide) [(.int (1 : Int32))] [] (by rw [hml]; rfl) El0 (own_growI l Z a0 hw a1 de kd mc h0 n0 O0 g_a1 SD VD ⟨El0, Ml0, Dl0, Sl0⟩) own_pd6 rfl rfl rfl (hb hby own_d_jdk_38_method_7_code_7) rfl ?_
  intro v2 T2 L2 X2 hQ2
  obtain ⟨b2, k2, rfl, Nq2, Kq2, g_b2, sz_b2, Al2, V2, Ov2⟩ := hQ2
  have sz_b2 := Nat.le_trans K0.1 sz_b2
  have N2 := Fr.app N0 Nq2
  have K3 := K0.trans Kq2 (allS (Or.inl (List.mem_of_getElem? (i := 0) rfl)) all0)
  obtain ⟨El2, Ml2, Dl2, Sl2⟩ := Al2
  show own_Ends p e below _ (T2.setTop (mkF m 10 #[.val (.ref a1)] [(.ref b2)]))
  exact own_retA X2 hx hlocks hret rfl rfl (hb hby own_d_jdk_38_method_7_code_10) (by decide) (by decide) ⟨b2, _, rfl, N2, by exact ⟨K3, g_b2, sz_b2, ⟨El2, Ml2, Dl2, Sl2⟩, V2, Ov2⟩⟩
set_option maxRecDepth 65536 in
set_option maxHeartbeats 40000000 in
theorem own_add3E (l : Launch) (Z : State) (a0 : Array Value) (hw : ∀ d ∈ tables_1, d.before a0 Z = true) (a1 el1 de : Addr) (kd : ClassId) (mc : Int32) (h0 : Heap) (n0 : Nat) (O0 : Old Z n0 h0) (g_a1 : n0 ≤ a1) (SD : Sta Z Z.heap "java/util/ArrayList" "DEFAULTCAPACITY_EMPTY_ELEMENTDATA" "[Ljava/lang/Object;" (.ref de)) (VD : Arv Z Z.heap de kd (.object "java/lang/Object") (0 : Int32) [] .null) (L0 : own_AL Z h0 a1 de mc 0) (I0 : Ins Z h0 el1 "java/lang/Object" true) :
    own_Met l (⟨"java/util/ArrayList", "add", "(Ljava/lang/Object;[Ljava/lang/Object;I)V"⟩ : MethodName) jdk_38_method_24_code 4 none ({ frames := 3, cells := 1, slots := 10, locals := 41 } : Room) Z #[(.ref a1), (.ref el1), (.ref de), (.int (0 : Int32))] h0 (fun v h L => v = none ∧ Fr n0 L ∧ Keep h0 h [a1] ∧ ∃ (b : Addr) (k : ClassId), n0 ≤ b ∧ h0.size ≤ b ∧ own_AL Z h a1 b mc 1 ∧ Arv Z h b k (.object "java/lang/Object") (10 : Int32) [(.ref el1), .null, .null, .null, .null, .null, .null, .null, .null, .null] .null ∧ Ovr Z k "java/lang/Object") := by
  refine own_met (plainFor_of_name own_pn_java_util_ArrayList) ?_
  intro p e s m below meth c T0 hx hby hml hZ hown hnm hret hlocks X0 e0 hh0
  have ef : entryFrame m #[(.ref a1), (.ref el1), (.ref de), (.int (0 : Int32))] 4 = mkF m 0 #[.val (.ref a1), .val (.ref el1), .val (.ref de), .val (.int (0 : Int32))] [] := by first | (simp [entryFrame, mkF, argsToLocals, Value.category]; done) | rfl
  refine own_entry ef ?_
  have N0 := Fr.nil n0
  have K0 := Keep.refl h0 [a1]
  obtain ⟨El0, Ml0, Dl0, Sl0⟩ := L0
  refine own_iloadN X0 hx (hb hby own_d_jdk_38_method_24_code_0) rfl rfl ?_
  refine own_aloadN X0 hx (hb hby own_d_jdk_38_method_24_code_1) rfl rfl rfl ?_
  refine own_arraylength X0 hx hZ e0 (VD.ext O0.2) (hb hby own_d_jdk_38_method_24_code_2) rfl ?_
  refine own_icmpF X0 hx (hb hby own_d_jdk_38_method_24_code_3) rfl (by decide) ?_
  refine own_aloadN X0 hx (hb hby own_d_jdk_38_method_24_code_6) rfl rfl rfl ?_
  refine own_private X0 hx hZ (y := (⟨"java/util/ArrayList", "grow", "()[Ljava/lang/Object;"⟩ : MethodName)) hown (hw _ (List.mem_of_getElem? (i := 108) rfl)) (own_nf (z := (⟨"java/util/ArrayList", "add", "(Ljava/lang/Object;)Z"⟩ : MethodName)) hZ (hw _ (List.mem_of_getElem? (i := 97) rfl))) (hw _ (List.mem_of_getElem? (i := 109) rfl)) (hw _ (List.mem_of_getElem? (i := 110) rfl)) (hw _ (List.mem_of_getElem? (i := 49) rfl)) (hw _ (List.mem_of_getElem? (i := 112) rfl)) (by decide) e0 (by decide) (W := 0) (by decide) (by decide) (by decide) [] [] (by rw [hml]; rfl) El0 (own_grow0 l Z a0 hw a1 de kd mc h0 n0 O0 g_a1 SD VD ⟨El0, Ml0, Dl0, Sl0⟩) own_pd7 rfl rfl rfl (hb hby own_d_jdk_38_method_24_code_7) rfl ?_
  intro v1 T1 L1 X1 hQ1
  obtain ⟨b1, k1, rfl, Nq1, Kq1, g_b1, sz_b1, Al1, V1, Ov1⟩ := hQ1
  have sz_b1 := Nat.le_trans K0.1 sz_b1
  have N1 := Fr.app N0 Nq1
  have K2 := K0.trans Kq1 (allS (Or.inl (List.mem_of_getElem? (i := 0) rfl)) all0)
  obtain ⟨El1, Ml1, Dl1, Sl1⟩ := Al1
  show own_Ends p e below _ (T1.setTop (mkF m 10 #[.val (.ref a1), .val (.ref el1), .val (.ref de), .val (.int (0 : Int32))] [(.ref b1)]))
  refine own_astoreN X1 hx #[.val (.ref a1), .val (.ref el1), .val (.ref b1), .val (.int (0 : Int32))] (hb hby own_d_jdk_38_method_24_code_10) rfl rfl rfl ?_
  refine own_aloadN X1 hx (hb hby own_d_jdk_38_method_24_code_11) rfl rfl rfl ?_
  refine own_iloadN X1 hx (hb hby own_d_jdk_38_method_24_code_12) rfl rfl ?_
  refine own_aloadN X1 hx (hb hby own_d_jdk_38_method_24_code_13) rfl rfl rfl ?_
  have f4 := (own_insK I0 Kq1)
  refine own_stR X1 hx hZ rfl V1 rfl rfl (own_sto V1 Ov1 f4) ⟨by decide, by decide⟩ 0 rfl (Nat.le_of_ble_eq_true rfl) N1 g_b1 (hb hby own_d_jdk_38_method_24_code_14) rfl ?_
  intro T3 h3 X3 e3 W3 N3 V3
  have K5 := K2.wr W3 (Or.inr sz_b1)
  refine own_aloadN X3 hx (hb hby own_d_jdk_38_method_24_code_15) rfl rfl rfl ?_
  refine own_iloadN X3 hx (hb hby own_d_jdk_38_method_24_code_16) rfl rfl ?_
  refine own_iconst X3 hx (1 : Int32) (hb hby own_d_jdk_38_method_24_code_17) (by decide) rfl ?_
  refine own_iadd X3 hx (hb hby own_d_jdk_38_method_24_code_18) rfl ?_
  rw [show ((0 : Int32) + (1 : Int32)) = (1 : Int32) from by decide]
  have f6 := (Sl1.other W3 (Or.inl (Exa.neArv El1 V1 (hw _ (List.mem_of_getElem? (i := 48) rfl)))))
  have f7 := (El1.wr W3)
  refine own_putF X3 hx hZ hown (host := "") (Or.inl (hw _ (List.mem_of_getElem? (i := 101) rfl))) Via.refl e3 f6 f7 (Or.inl (hw _ (List.mem_of_getElem? (i := 102) rfl))) (hw _ (List.mem_of_getElem? (i := 48) rfl)) (ty := .int) (by decide) rfl rfl N3 g_a1 (hb hby own_d_jdk_38_method_24_code_19) rfl ?_
  intro T8 h8 X8 e8 W8 N8
  have K9 := K5.wr W8 (Or.inl (List.mem_of_getElem? (i := 0) rfl))
  have f10 := f6.same W8
  have f11 := (f7.wr W8)
  have f12 := ((Ml1.other W3 (Or.inl (Exa.neArv El1 V1 (hw _ (List.mem_of_getElem? (i := 48) rfl))))).other W8 (Or.inr (slot_ne (Or.inl (hw _ (List.mem_of_getElem? (i := 67) rfl))) (Or.inl (hw _ (List.mem_of_getElem? (i := 102) rfl))) (by decide) (t := .int) (t' := .int) (by decide) (by decide))))
  have f13 := ((Dl1.other W3 (Or.inl (Exa.neArv El1 V1 (hw _ (List.mem_of_getElem? (i := 48) rfl))))).other W8 (Or.inr (slot_ne (Or.inl (hw _ (List.mem_of_getElem? (i := 70) rfl))) (Or.inl (hw _ (List.mem_of_getElem? (i := 102) rfl))) (by decide) (t := (.array (.object "java/lang/Object"))) (t' := .int) (by decide) (by decide))))
  have f14 := (V3.other W8 (Ne.symm (Exa.neArv El1 V1 (hw _ (List.mem_of_getElem? (i := 48) rfl)))))
  exact own_ret X8 hx hlocks hret (hb hby own_d_jdk_38_method_24_code_22) (by decide) (by decide) ⟨rfl, N8, by rw [e8]; exact ⟨K9, b1, _, g_b1, sz_b1, ⟨f11, f12, f13, f10⟩, f14, Ov1⟩⟩
set_option maxRecDepth 65536 in
set_option maxHeartbeats 40000000 in
theorem own_addE (l : Launch) (Z : State) (a0 : Array Value) (hw : ∀ d ∈ tables_1, d.before a0 Z = true) (a1 el1 de : Addr) (kd : ClassId) (mc : Int32) (h0 : Heap) (n0 : Nat) (O0 : Old Z n0 h0) (g_a1 : n0 ≤ a1) (SD : Sta Z Z.heap "java/util/ArrayList" "DEFAULTCAPACITY_EMPTY_ELEMENTDATA" "[Ljava/lang/Object;" (.ref de)) (VD : Arv Z Z.heap de kd (.object "java/lang/Object") (0 : Int32) [] .null) (L0 : own_AL Z h0 a1 de mc 0) (I0 : Ins Z h0 el1 "java/lang/Object" true) :
    own_Met l (⟨"java/util/ArrayList", "add", "(Ljava/lang/Object;)Z"⟩ : MethodName) jdk_38_method_25_code 2 (some .boolean) ({ frames := 4, cells := 1, slots := 10, locals := 56 } : Room) Z #[(.ref a1), (.ref el1)] h0 (fun v h L => v = some (.int 1) ∧ Fr n0 L ∧ Keep h0 h [a1] ∧ ∃ (b : Addr) (k : ClassId), n0 ≤ b ∧ h0.size ≤ b ∧ own_AL Z h a1 b (mc + (1 : Int32)) 1 ∧ Arv Z h b k (.object "java/lang/Object") (10 : Int32) [(.ref el1), .null, .null, .null, .null, .null, .null, .null, .null, .null] .null ∧ Ovr Z k "java/lang/Object") := by
  refine own_met (plainFor_of_name own_pn_java_util_ArrayList) ?_
  intro p e s m below meth c T0 hx hby hml hZ hown hnm hret hlocks X0 e0 hh0
  have ef : entryFrame m #[(.ref a1), (.ref el1)] 2 = mkF m 0 #[.val (.ref a1), .val (.ref el1)] [] := by first | (simp [entryFrame, mkF, argsToLocals, Value.category]; done) | rfl
  refine own_entry ef ?_
  have N0 := Fr.nil n0
  have K0 := Keep.refl h0 [a1]
  obtain ⟨El0, Ml0, Dl0, Sl0⟩ := L0
  refine own_aloadN X0 hx (hb hby own_d_jdk_38_method_25_code_0) rfl rfl rfl ?_
  refine own_dup X0 hx (hb hby own_d_jdk_38_method_25_code_1) rfl rfl ?_
  refine own_getF X0 hx hZ hown (host := "") (Or.inl (hw _ (List.mem_of_getElem? (i := 99) rfl))) (Via.of (hw _ (List.mem_of_getElem? (i := 100) rfl))) e0 Ml0 (hb hby own_d_jdk_38_method_25_code_2) rfl ?_
  intro T1 X1 e1
  refine own_iconst X1 hx (1 : Int32) (hb hby own_d_jdk_38_method_25_code_5) (by decide) rfl ?_
  refine own_iadd X1 hx (hb hby own_d_jdk_38_method_25_code_6) rfl ?_
  refine own_putF X1 hx hZ hown (host := "") (Or.inl (hw _ (List.mem_of_getElem? (i := 99) rfl))) (Via.of (hw _ (List.mem_of_getElem? (i := 100) rfl))) e1 Ml0 El0 (Or.inl (hw _ (List.mem_of_getElem? (i := 67) rfl))) (hw _ (List.mem_of_getElem? (i := 48) rfl)) (ty := .int) (by decide) rfl rfl N0 g_a1 (hb hby own_d_jdk_38_method_25_code_7) rfl ?_
  intro T2 h2 X2 e2 W2 N2
  have K3 := K0.wr W2 (Or.inl (List.mem_of_getElem? (i := 0) rfl))
  have f4 := Ml0.same W2
  refine own_aloadN X2 hx (hb hby own_d_jdk_38_method_25_code_10) rfl rfl rfl ?_
  refine own_aloadN X2 hx (hb hby own_d_jdk_38_method_25_code_11) rfl rfl rfl ?_
  refine own_aloadN X2 hx (hb hby own_d_jdk_38_method_25_code_12) rfl rfl rfl ?_
  have f5 := (Dl0.other W2 (Or.inr (slot_ne (Or.inl (hw _ (List.mem_of_getElem? (i := 70) rfl))) (Or.inl (hw _ (List.mem_of_getElem? (i := 67) rfl))) (by decide) (t := (.array (.object "java/lang/Object"))) (t' := .int) (by decide) (by decide))))
  refine own_getF X2 hx hZ hown (host := "") (Or.inl (hw _ (List.mem_of_getElem? (i := 69) rfl))) Via.refl e2 f5 (hb hby own_d_jdk_38_method_25_code_13) rfl ?_
  intro T6 X6 e6
  refine own_aloadN X6 hx (hb hby own_d_jdk_38_method_25_code_16) rfl rfl rfl ?_
  have f7 := (Sl0.other W2 (Or.inr (slot_ne (Or.inl (hw _ (List.mem_of_getElem? (i := 102) rfl))) (Or.inl (hw _ (List.mem_of_getElem? (i := 67) rfl))) (by decide) (t := .int) (t' := .int) (by decide) (by decide))))
  refine own_getF X6 hx hZ hown (host := "") (Or.inl (hw _ (List.mem_of_getElem? (i := 101) rfl))) Via.refl e6 f7 (hb hby own_d_jdk_38_method_25_code_17) rfl ?_
  intro T8 X8 e8
  have f9 := (O0.wr W2 g_a1)
  have f10 := (El0.wr W2)
  have f11 := (I0.wr W2)
  refine own_private X8 hx hZ (y := (⟨"java/util/ArrayList", "add", "(Ljava/lang/Object;[Ljava/lang/Object;I)V"⟩ : MethodName)) hown (hw _ (List.mem_of_getElem? (i := 103) rfl)) (own_nf (z := (⟨"java/util/ArrayList", "add", "(Ljava/lang/Object;)Z"⟩ : MethodName)) hZ (hw _ (List.mem_of_getElem? (i := 97) rfl))) (hw _ (List.mem_of_getElem? (i := 104) rfl)) (hw _ (List.mem_of_getElem? (i := 105) rfl)) (hw _ (List.mem_of_getElem? (i := 49) rfl)) (hw _ (List.mem_of_getElem? (i := 107) rfl)) (by decide) e8 (by decide) (W := 0) (by decide) (by decide) (by decide) [(.ref el1), (.ref de), (.int (0 : Int32))] [] (by rw [hml]; rfl) f10 (own_add3E l Z a0 hw a1 el1 de kd (mc + (1 : Int32)) h2 n0 f9 g_a1 SD VD ⟨f10, f4, f5, f7⟩ f11) own_pd8 rfl rfl rfl (hb hby own_d_jdk_38_method_25_code_20) rfl ?_
  intro v12 T12 L12 X12 hQ12
  obtain ⟨rfl, Nq12, Kq12, b12, k12, g_b12, sz_b12, Al12, V12, Ov12⟩ := hQ12
  have sz_b12 := Nat.le_trans K3.1 sz_b12
  have N12 := Fr.app N2 Nq12
  have K13 := K3.trans Kq12 (allS (Or.inl (List.mem_of_getElem? (i := 0) rfl)) all0)
  obtain ⟨El12, Ml12, Dl12, Sl12⟩ := Al12
  show own_Ends p e below _ (T12.setTop (mkF m 23 #[.val (.ref a1), .val (.ref el1)] []))
  refine own_iconst X12 hx (1 : Int32) (hb hby own_d_jdk_38_method_25_code_23) (by decide) rfl ?_
  exact own_retN X12 hx hlocks hret (by simp) (hb hby own_d_jdk_38_method_25_code_24) (by decide) (by decide) (by decide) ⟨rfl, N12, by exact ⟨K13, b12, _, g_b12, sz_b12, ⟨El12, Ml12, Dl12, Sl12⟩, V12, Ov12⟩⟩
set_option maxRecDepth 65536 in
set_option maxHeartbeats 40000000 in
theorem own_elN (l : Launch) (Z : State) (a0 : Array Value) (hw : ∀ d ∈ tables_1, d.before a0 Z = true) (a1 n1 l1 : Addr) (h0 : Heap) (n0 : Nat) (g_a1 : n0 ≤ a1) (E0 : Exa Z h0 a1 "com/example/ledgerleaf/ledgerleaf/Element") (D0 : (∀ {O nm d : String} {ty : FieldType}, Laid Z a0 "com/example/ledgerleaf/ledgerleaf/Element" O nm d → parseFieldDescriptor d = some ty → Fld Z h0 a1 O nm d (defaultValue ty))) :
    own_Met l (⟨"com/example/ledgerleaf/ledgerleaf/Element", "<init>", "(Ljava/lang/String;Ljava/lang/String;Ljava/util/List;)V"⟩ : MethodName) prog_31_method_1_code 4 none ({ frames := 2, cells := 0, slots := 0, locals := 24 } : Room) Z #[(.ref a1), (.ref n1), .null, (.ref l1)] h0 (fun v h L => v = none ∧ Fr n0 L ∧ Keep h0 h [a1] ∧ Exa Z h a1 "com/example/ledgerleaf/ledgerleaf/Element" ∧ Fld Z h a1 "com/example/ledgerleaf/ledgerleaf/Element" "text" "Ljava/lang/String;" .null) := by
  refine own_met (plainFor_of_name own_pn_com_example_ledgerleaf_ledgerleaf_Element) ?_
  intro p e s m below meth c T0 hx hby hml hZ hown hnm hret hlocks X0 e0 hh0
  have ef : entryFrame m #[(.ref a1), (.ref n1), .null, (.ref l1)] 4 = mkF m 0 #[.val (.ref a1), .val (.ref n1), .val .null, .val (.ref l1)] [] := by first | (simp [entryFrame, mkF, argsToLocals, Value.category]; done) | rfl
  refine own_entry ef ?_
  have N0 := Fr.nil n0
  have K0 := Keep.refl h0 [a1]
  have Fa1_name : Fld Z h0 a1 "com/example/ledgerleaf/ledgerleaf/Element" "name" "Ljava/lang/String;" .null := D0 (Or.inr (hw _ (List.mem_of_getElem? (i := 84) rfl))) (ty := (.object "java/lang/String")) (by decide)
  have Fa1_text : Fld Z h0 a1 "com/example/ledgerleaf/ledgerleaf/Element" "text" "Ljava/lang/String;" .null := D0 (Or.inr (hw _ (List.mem_of_getElem? (i := 86) rfl))) (ty := (.object "java/lang/String")) (by decide)
  have Fa1_children : Fld Z h0 a1 "com/example/ledgerleaf/ledgerleaf/Element" "children" "Ljava/util/List;" .null := D0 (Or.inr (hw _ (List.mem_of_getElem? (i := 88) rfl))) (ty := (.object "java/util/List")) (by decide)
  refine own_aloadN X0 hx (hb hby own_d_prog_31_method_1_code_0) rfl rfl rfl ?_
  refine own_special X0 hx hZ (y := (⟨"java/lang/Record", "<init>", "()V"⟩ : MethodName)) rfl hown (hw _ (List.mem_of_getElem? (i := 77) rfl)) (hw _ (List.mem_of_getElem? (i := 78) rfl)) (hw _ (List.mem_of_getElem? (i := 80) rfl)) (hw _ (List.mem_of_getElem? (i := 81) rfl)) (by decide) e0 (by decide) (W := 0) (by decide) (by decide) (by decide) [] [] (by rw [hml]; rfl) (a := a1) (own_rec l Z a0 hw a1 h0 n0) own_pd4 rfl rfl rfl (hb hby own_d_prog_31_method_1_code_1) rfl ?_
  intro v1 T1 L1 X1 hQ1
  obtain ⟨rfl, Nq1, hh1⟩ := hQ1
  have N1 := Fr.app N0 Nq1
  show own_Ends p e below _ (T1.setTop (mkF m 4 #[.val (.ref a1), .val (.ref n1), .val .null, .val (.ref l1)] []))
  refine own_aloadN X1 hx (hb hby own_d_prog_31_method_1_code_4) rfl rfl rfl ?_
  refine own_aloadN X1 hx (hb hby own_d_prog_31_method_1_code_5) rfl rfl rfl ?_
  refine own_putF X1 hx hZ hown (host := "") (Or.inl (hw _ (List.mem_of_getElem? (i := 83) rfl))) Via.refl hh1 Fa1_name E0 (Or.inr ⟨(hw _ (List.mem_of_getElem? (i := 84) rfl)), rfl, hnm⟩) (hw _ (List.mem_of_getElem? (i := 72) rfl)) (ty := (.object "java/lang/String")) (by decide) rfl rfl N1 g_a1 (hb hby own_d_prog_31_method_1_code_6) rfl ?_
  intro T2 h2 X2 e2 W2 N2
  have K3 := K0.wr W2 (Or.inl (List.mem_of_getElem? (i := 0) rfl))
  have f4 := Fa1_name.same W2
  refine own_aloadN X2 hx (hb hby own_d_prog_31_method_1_code_9) rfl rfl rfl ?_
  refine own_aloadN X2 hx (hb hby own_d_prog_31_method_1_code_10) rfl rfl rfl ?_
  have f5 := (Fa1_text.other W2 (Or.inr (slot_ne (Or.inr (hw _ (List.mem_of_getElem? (i := 86) rfl))) (Or.inr (hw _ (List.mem_of_getElem? (i := 84) rfl))) (by decide) (t := (.object "java/lang/String")) (t' := (.object "java/lang/String")) (by decide) (by decide))))
  have f6 := (E0.wr W2)
  refine own_putF X2 hx hZ hown (host := "") (Or.inl (hw _ (List.mem_of_getElem? (i := 85) rfl))) Via.refl e2 f5 f6 (Or.inr ⟨(hw _ (List.mem_of_getElem? (i := 86) rfl)), rfl, hnm⟩) (hw _ (List.mem_of_getElem? (i := 72) rfl)) (ty := (.object "java/lang/String")) (by decide) rfl rfl N2 g_a1 (hb hby own_d_prog_31_method_1_code_11) rfl ?_
  intro T7 h7 X7 e7 W7 N7
  have K8 := K3.wr W7 (Or.inl (List.mem_of_getElem? (i := 0) rfl))
  have f9 := f5.same W7
  refine own_aloadN X7 hx (hb hby own_d_prog_31_method_1_code_14) rfl rfl rfl ?_
  refine own_aloadN X7 hx (hb hby own_d_prog_31_method_1_code_15) rfl rfl rfl ?_
  have f10 := ((Fa1_children.other W2 (Or.inr (slot_ne (Or.inr (hw _ (List.mem_of_getElem? (i := 88) rfl))) (Or.inr (hw _ (List.mem_of_getElem? (i := 84) rfl))) (by decide) (t := (.object "java/util/List")) (t' := (.object "java/lang/String")) (by decide) (by decide)))).other W7 (Or.inr (slot_ne (Or.inr (hw _ (List.mem_of_getElem? (i := 88) rfl))) (Or.inr (hw _ (List.mem_of_getElem? (i := 86) rfl))) (by decide) (t := (.object "java/util/List")) (t' := (.object "java/lang/String")) (by decide) (by decide))))
  have f11 := (f6.wr W7)
  refine own_putF X7 hx hZ hown (host := "") (Or.inl (hw _ (List.mem_of_getElem? (i := 87) rfl))) Via.refl e7 f10 f11 (Or.inr ⟨(hw _ (List.mem_of_getElem? (i := 88) rfl)), rfl, hnm⟩) (hw _ (List.mem_of_getElem? (i := 72) rfl)) (ty := (.object "java/util/List")) (by decide) rfl rfl N7 g_a1 (hb hby own_d_prog_31_method_1_code_16) rfl ?_
  intro T12 h12 X12 e12 W12 N12
  have K13 := K8.wr W12 (Or.inl (List.mem_of_getElem? (i := 0) rfl))
  have f14 := f10.same W12
  have f15 := (f11.wr W12)
  have f16 := (f9.other W12 (Or.inr (slot_ne (Or.inr (hw _ (List.mem_of_getElem? (i := 86) rfl))) (Or.inr (hw _ (List.mem_of_getElem? (i := 88) rfl))) (by decide) (t := (.object "java/lang/String")) (t' := (.object "java/util/List")) (by decide) (by decide))))
  exact own_ret X12 hx hlocks hret (hb hby own_d_prog_31_method_1_code_19) (by decide) (by decide) ⟨rfl, N12, by rw [e12]; exact ⟨K13, f15, f16⟩⟩
set_option maxRecDepth 65536 in
set_option maxHeartbeats 40000000 in
theorem own_holdN (l : Launch) (Z : State) (a0 : Array Value) (hw : ∀ d ∈ tables_1, d.before a0 Z = true) (a1 : Addr) (h0 : Heap) (n0 : Nat) (F1 : Fld Z h0 a1 "com/example/ledgerleaf/ledgerleaf/Element" "text" "Ljava/lang/String;" .null) :
    own_Met l (⟨"com/example/ledgerleaf/ledgerleaf/Element", "holdsText", "()Z"⟩ : MethodName) prog_31_method_5_code 1 (some .boolean) ({ frames := 0, cells := 0, slots := 0, locals := 0 } : Room) Z #[(.ref a1)] h0 (fun v h L => v = some (.int 0) ∧ Fr n0 L ∧ h = h0) := by
  refine own_met (plainFor_of_name own_pn_com_example_ledgerleaf_ledgerleaf_Element) ?_
  intro p e s m below meth c T0 hx hby hml hZ hown hnm hret hlocks X0 e0 hh0
  have ef : entryFrame m #[(.ref a1)] 1 = mkF m 0 #[.val (.ref a1)] [] := by first | (simp [entryFrame, mkF, argsToLocals, Value.category]; done) | rfl
  refine own_entry ef ?_
  have N0 := Fr.nil n0
  refine own_aloadN X0 hx (hb hby own_d_prog_31_method_5_code_0) rfl rfl rfl ?_
  refine own_getF X0 hx hZ hown (host := "") (Or.inl (hw _ (List.mem_of_getElem? (i := 85) rfl))) Via.refl e0 F1 (hb hby own_d_prog_31_method_5_code_1) rfl ?_
  intro T1 X1 e1
  refine own_ifnullT X1 hx (hb hby own_d_prog_31_method_5_code_4) (by decide) rfl ?_
  refine own_iconst X1 hx (0 : Int32) (hb hby own_d_prog_31_method_5_code_11) (by decide) rfl ?_
  exact own_retN X1 hx hlocks hret (by simp) (hb hby own_d_prog_31_method_5_code_12) (by decide) (by decide) (by decide) ⟨rfl, N0, e1⟩
set_option maxRecDepth 65536 in
set_option maxHeartbeats 40000000 in
theorem own_elR (l : Launch) (Z : State) (a0 : Array Value) (hw : ∀ d ∈ tables_1, d.before a0 Z = true) (a1 n1 t1 l1 : Addr) (h0 : Heap) (n0 : Nat) (g_a1 : n0 ≤ a1) (E0 : Exa Z h0 a1 "com/example/ledgerleaf/ledgerleaf/Element") (D0 : (∀ {O nm d : String} {ty : FieldType}, Laid Z a0 "com/example/ledgerleaf/ledgerleaf/Element" O nm d → parseFieldDescriptor d = some ty → Fld Z h0 a1 O nm d (defaultValue ty))) :
    own_Met l (⟨"com/example/ledgerleaf/ledgerleaf/Element", "<init>", "(Ljava/lang/String;Ljava/lang/String;Ljava/util/List;)V"⟩ : MethodName) prog_31_method_1_code 4 none ({ frames := 2, cells := 0, slots := 0, locals := 24 } : Room) Z #[(.ref a1), (.ref n1), (.ref t1), (.ref l1)] h0 (fun v h L => v = none ∧ Fr n0 L ∧ Keep h0 h [a1] ∧ Exa Z h a1 "com/example/ledgerleaf/ledgerleaf/Element" ∧ Fld Z h a1 "com/example/ledgerleaf/ledgerleaf/Element" "text" "Ljava/lang/String;" (.ref t1)) := by
  refine own_met (plainFor_of_name own_pn_com_example_ledgerleaf_ledgerleaf_Element) ?_
  intro p e s m below meth c T0 hx hby hml hZ hown hnm hret hlocks X0 e0 hh0
  have ef : entryFrame m #[(.ref a1), (.ref n1), (.ref t1), (.ref l1)] 4 = mkF m 0 #[.val (.ref a1), .val (.ref n1), .val (.ref t1), .val (.ref l1)] [] := by first | (simp [entryFrame, mkF, argsToLocals, Value.category]; done) | rfl
  refine own_entry ef ?_
  have N0 := Fr.nil n0
  have K0 := Keep.refl h0 [a1]
  have Fa1_name : Fld Z h0 a1 "com/example/ledgerleaf/ledgerleaf/Element" "name" "Ljava/lang/String;" .null := D0 (Or.inr (hw _ (List.mem_of_getElem? (i := 84) rfl))) (ty := (.object "java/lang/String")) (by decide)
  have Fa1_text : Fld Z h0 a1 "com/example/ledgerleaf/ledgerleaf/Element" "text" "Ljava/lang/String;" .null := D0 (Or.inr (hw _ (List.mem_of_getElem? (i := 86) rfl))) (ty := (.object "java/lang/String")) (by decide)
  have Fa1_children : Fld Z h0 a1 "com/example/ledgerleaf/ledgerleaf/Element" "children" "Ljava/util/List;" .null := D0 (Or.inr (hw _ (List.mem_of_getElem? (i := 88) rfl))) (ty := (.object "java/util/List")) (by decide)
  refine own_aloadN X0 hx (hb hby own_d_prog_31_method_1_code_0) rfl rfl rfl ?_
  refine own_special X0 hx hZ (y := (⟨"java/lang/Record", "<init>", "()V"⟩ : MethodName)) rfl hown (hw _ (List.mem_of_getElem? (i := 77) rfl)) (hw _ (List.mem_of_getElem? (i := 78) rfl)) (hw _ (List.mem_of_getElem? (i := 80) rfl)) (hw _ (List.mem_of_getElem? (i := 81) rfl)) (by decide) e0 (by decide) (W := 0) (by decide) (by decide) (by decide) [] [] (by rw [hml]; rfl) (a := a1) (own_rec l Z a0 hw a1 h0 n0) own_pd4 rfl rfl rfl (hb hby own_d_prog_31_method_1_code_1) rfl ?_
  intro v1 T1 L1 X1 hQ1
  obtain ⟨rfl, Nq1, hh1⟩ := hQ1
  have N1 := Fr.app N0 Nq1
  show own_Ends p e below _ (T1.setTop (mkF m 4 #[.val (.ref a1), .val (.ref n1), .val (.ref t1), .val (.ref l1)] []))
  refine own_aloadN X1 hx (hb hby own_d_prog_31_method_1_code_4) rfl rfl rfl ?_
  refine own_aloadN X1 hx (hb hby own_d_prog_31_method_1_code_5) rfl rfl rfl ?_
  refine own_putF X1 hx hZ hown (host := "") (Or.inl (hw _ (List.mem_of_getElem? (i := 83) rfl))) Via.refl hh1 Fa1_name E0 (Or.inr ⟨(hw _ (List.mem_of_getElem? (i := 84) rfl)), rfl, hnm⟩) (hw _ (List.mem_of_getElem? (i := 72) rfl)) (ty := (.object "java/lang/String")) (by decide) rfl rfl N1 g_a1 (hb hby own_d_prog_31_method_1_code_6) rfl ?_
  intro T2 h2 X2 e2 W2 N2
  have K3 := K0.wr W2 (Or.inl (List.mem_of_getElem? (i := 0) rfl))
  have f4 := Fa1_name.same W2
  refine own_aloadN X2 hx (hb hby own_d_prog_31_method_1_code_9) rfl rfl rfl ?_
  refine own_aloadN X2 hx (hb hby own_d_prog_31_method_1_code_10) rfl rfl rfl ?_
  have f5 := (Fa1_text.other W2 (Or.inr (slot_ne (Or.inr (hw _ (List.mem_of_getElem? (i := 86) rfl))) (Or.inr (hw _ (List.mem_of_getElem? (i := 84) rfl))) (by decide) (t := (.object "java/lang/String")) (t' := (.object "java/lang/String")) (by decide) (by decide))))
  have f6 := (E0.wr W2)
  refine own_putF X2 hx hZ hown (host := "") (Or.inl (hw _ (List.mem_of_getElem? (i := 85) rfl))) Via.refl e2 f5 f6 (Or.inr ⟨(hw _ (List.mem_of_getElem? (i := 86) rfl)), rfl, hnm⟩) (hw _ (List.mem_of_getElem? (i := 72) rfl)) (ty := (.object "java/lang/String")) (by decide) rfl rfl N2 g_a1 (hb hby own_d_prog_31_method_1_code_11) rfl ?_
  intro T7 h7 X7 e7 W7 N7
  have K8 := K3.wr W7 (Or.inl (List.mem_of_getElem? (i := 0) rfl))
  have f9 := f5.same W7
  refine own_aloadN X7 hx (hb hby own_d_prog_31_method_1_code_14) rfl rfl rfl ?_
  refine own_aloadN X7 hx (hb hby own_d_prog_31_method_1_code_15) rfl rfl rfl ?_
  have f10 := ((Fa1_children.other W2 (Or.inr (slot_ne (Or.inr (hw _ (List.mem_of_getElem? (i := 88) rfl))) (Or.inr (hw _ (List.mem_of_getElem? (i := 84) rfl))) (by decide) (t := (.object "java/util/List")) (t' := (.object "java/lang/String")) (by decide) (by decide)))).other W7 (Or.inr (slot_ne (Or.inr (hw _ (List.mem_of_getElem? (i := 88) rfl))) (Or.inr (hw _ (List.mem_of_getElem? (i := 86) rfl))) (by decide) (t := (.object "java/util/List")) (t' := (.object "java/lang/String")) (by decide) (by decide))))
  have f11 := (f6.wr W7)
  refine own_putF X7 hx hZ hown (host := "") (Or.inl (hw _ (List.mem_of_getElem? (i := 87) rfl))) Via.refl e7 f10 f11 (Or.inr ⟨(hw _ (List.mem_of_getElem? (i := 88) rfl)), rfl, hnm⟩) (hw _ (List.mem_of_getElem? (i := 72) rfl)) (ty := (.object "java/util/List")) (by decide) rfl rfl N7 g_a1 (hb hby own_d_prog_31_method_1_code_16) rfl ?_
  intro T12 h12 X12 e12 W12 N12
  have K13 := K8.wr W12 (Or.inl (List.mem_of_getElem? (i := 0) rfl))
  have f14 := f10.same W12
  have f15 := (f11.wr W12)
  have f16 := (f9.other W12 (Or.inr (slot_ne (Or.inr (hw _ (List.mem_of_getElem? (i := 86) rfl))) (Or.inr (hw _ (List.mem_of_getElem? (i := 88) rfl))) (by decide) (t := (.object "java/lang/String")) (t' := (.object "java/util/List")) (by decide) (by decide))))
  exact own_ret X12 hx hlocks hret (hb hby own_d_prog_31_method_1_code_19) (by decide) (by decide) ⟨rfl, N12, by rw [e12]; exact ⟨K13, f15, f16⟩⟩
set_option maxRecDepth 65536 in
set_option maxHeartbeats 40000000 in
theorem own_holdR (l : Launch) (Z : State) (a0 : Array Value) (hw : ∀ d ∈ tables_1, d.before a0 Z = true) (a1 t1 : Addr) (h0 : Heap) (n0 : Nat) (F1 : Fld Z h0 a1 "com/example/ledgerleaf/ledgerleaf/Element" "text" "Ljava/lang/String;" (.ref t1)) :
    own_Met l (⟨"com/example/ledgerleaf/ledgerleaf/Element", "holdsText", "()Z"⟩ : MethodName) prog_31_method_5_code 1 (some .boolean) ({ frames := 0, cells := 0, slots := 0, locals := 0 } : Room) Z #[(.ref a1)] h0 (fun v h L => v = some (.int 1) ∧ Fr n0 L ∧ h = h0) := by
  refine own_met (plainFor_of_name own_pn_com_example_ledgerleaf_ledgerleaf_Element) ?_
  intro p e s m below meth c T0 hx hby hml hZ hown hnm hret hlocks X0 e0 hh0
  have ef : entryFrame m #[(.ref a1)] 1 = mkF m 0 #[.val (.ref a1)] [] := by first | (simp [entryFrame, mkF, argsToLocals, Value.category]; done) | rfl
  refine own_entry ef ?_
  have N0 := Fr.nil n0
  refine own_aloadN X0 hx (hb hby own_d_prog_31_method_5_code_0) rfl rfl rfl ?_
  refine own_getF X0 hx hZ hown (host := "") (Or.inl (hw _ (List.mem_of_getElem? (i := 85) rfl))) Via.refl e0 F1 (hb hby own_d_prog_31_method_5_code_1) rfl ?_
  intro T1 X1 e1
  refine own_ifnullF X1 hx (hb hby own_d_prog_31_method_5_code_4) rfl ?_
  refine own_iconst X1 hx (1 : Int32) (hb hby own_d_prog_31_method_5_code_7) (by decide) rfl ?_
  refine own_goto X1 hx (hb hby own_d_prog_31_method_5_code_8) (by decide) rfl ?_
  exact own_retN X1 hx hlocks hret (by simp) (hb hby own_d_prog_31_method_5_code_12) (by decide) (by decide) (by decide) ⟨rfl, N0, e1⟩
set_option maxRecDepth 65536 in
set_option maxHeartbeats 40000000 in
theorem own_law (l : Launch) (Z : State) (a0 : Array Value) (hw : ∀ d ∈ tables_1, d.before a0 Z = true) (p1 p2 p3 p4 p5 zc : Int32) (de : Addr) (kd : ClassId) (h0 : Heap) (n0 : Nat) (hEL : EW Z a0 consts_1) (O0 : Old Z n0 h0) (SC : Sta Z Z.heap "java/lang/String" "COMPACT_STRINGS" "Z" (.int zc)) (hzc : ¬ zc = 0) (SD : Sta Z Z.heap "java/util/ArrayList" "DEFAULTCAPACITY_EMPTY_ELEMENTDATA" "[Ljava/lang/Object;" (.ref de)) (VD : Arv Z Z.heap de kd (.object "java/lang/Object") (0 : Int32) [] .null) :
    own_MetH l x code maxLocals ret room_1 Z consts_1 #[(.int p1), (.int p2), (.int p3), (.int p4), (.int p5)] h0 (fun v h L => v = some (.int 1) ∧ Fr n0 L) := by
  refine own_metH (plainFor_of_name own_pn_com_example_ledgerleaf_ledgerleaf_ElementHoldsTextPinLaw) ?_
  intro p e s m below meth c T0 hx hby hml hZ hown hnm hret hlocks X0 e0 hh0 HH0
  have ef : entryFrame m #[(.int p1), (.int p2), (.int p3), (.int p4), (.int p5)] maxLocals = mkF m 0 #[.val (.int p1), .val (.int p2), .val (.int p3), .val (.int p4), .val (.int p5), .unset, .unset, .unset, .unset, .unset, .unset, .unset, .unset, .unset, .unset, .unset, .unset, .unset] [] := by first | (simp [entryFrame, mkF, argsToLocals, Value.category, maxLocals]; done) | rfl
  refine own_entry ef ?_
  have N0 := Fr.nil n0
  refine own_iconst X0 hx (2 : Int32) (hb hby at_0) (by decide) rfl ?_
  refine own_newP X0 hx hZ (aty := .char) (hw _ (List.mem_of_getElem? (i := 0) rfl)) e0 (hb hby at_1) (by decide) 2 (by decide) (by decide) (by decide) (by decide) rfl ?_
  intro T1 h1 b1 k1 X1 e1 g1 E1 V1q
  have g_b1 : n0 ≤ b1 := Nat.le_trans (own_oz O0) (Nat.le_of_eq g1.symm)
  have HH2 := HH0.ext E1
  have V1 : Arv Z h1 b1 k1 .char (2 : Int32) [(.int (0 : Int32)), (.int (0 : Int32))] (.int (0 : Int32)) := Arv.pad V1q (pad_rep [] (.int (0 : Int32)) 2)
  refine own_dup X1 hx (hb hby at_3) rfl rfl ?_
  refine own_iconst X1 hx (0 : Int32) (hb hby at_4) (by decide) rfl ?_
  refine own_iloadN X1 hx (hb hby at_5) rfl rfl ?_
  refine own_sipush X1 hx (255 : Int32) (hb hby at_6) (by decide) rfl ?_
  refine own_iand X1 hx (hb hby at_9) rfl ?_
  refine own_i2c X1 hx (hb hby at_10) rfl ?_
  have hc3 := own_ch p2
  generalize ((p2 &&& (255 : Int32)).toUInt32.toUInt16.toUInt32.toInt32) = c3 at hc3 ⊢
  refine own_stC X1 hx hZ e1 V1 ⟨by decide, by decide⟩ 0 rfl (Nat.le_of_ble_eq_true rfl) (own_narC hc3) N0 g_b1 (hb hby at_11) rfl ?_
  intro T4 h4 X4 e4 W4 N4 V4
  have HH5 := HH2.wr W4 (Safe.arv hZ.alike V1 (by decide))
  refine own_dup X4 hx (hb hby at_12) rfl rfl ?_
  refine own_iconst X4 hx (1 : Int32) (hb hby at_13) (by decide) rfl ?_
  refine own_iloadN X4 hx (hb hby at_14) rfl rfl ?_
  refine own_sipush X4 hx (255 : Int32) (hb hby at_15) (by decide) rfl ?_
  refine own_iand X4 hx (hb hby at_18) rfl ?_
  refine own_i2c X4 hx (hb hby at_19) rfl ?_
  have hc6 := own_ch p3
  generalize ((p3 &&& (255 : Int32)).toUInt32.toUInt16.toUInt32.toInt32) = c6 at hc6 ⊢
  refine own_stC X4 hx hZ e4 V4 ⟨by decide, by decide⟩ 1 rfl (Nat.le_of_ble_eq_true rfl) (own_narC hc6) N4 g_b1 (hb hby at_20) rfl ?_
  intro T7 h7 X7 e7 W7 N7 V7
  have HH8 := HH5.wr W7 (Safe.arv hZ.alike V4 (by decide))
  refine own_astore X7 hx #[.val (.int p1), .val (.int p2), .val (.int p3), .val (.int p4), .val (.int p5), .val (.ref b1), .unset, .unset, .unset, .unset, .unset, .unset, .unset, .unset, .unset, .unset, .unset, .unset] (hb hby at_21) rfl rfl rfl ?_
  refine own_iconst X7 hx (1 : Int32) (hb hby at_23) (by decide) rfl ?_
  refine own_newP X7 hx hZ (aty := .char) (hw _ (List.mem_of_getElem? (i := 0) rfl)) e7 (hb hby at_24) (by decide) 1 (by decide) (by decide) (by decide) (by decide) rfl ?_
  intro T9 h9 b9 k9 X9 e9 g9 E9 V9q
  have f10 := (((O0.ext E1).wr W4 g_b1).wr W7 g_b1)
  have g_b9 : n0 ≤ b9 := Nat.le_trans (own_oz f10) (Nat.le_of_eq g9.symm)
  have HH11 := HH8.ext E9
  have V9 : Arv Z h9 b9 k9 .char (1 : Int32) [(.int (0 : Int32))] (.int (0 : Int32)) := Arv.pad V9q (pad_rep [] (.int (0 : Int32)) 1)
  refine own_dup X9 hx (hb hby at_26) rfl rfl ?_
  refine own_iconst X9 hx (0 : Int32) (hb hby at_27) (by decide) rfl ?_
  refine own_iloadN X9 hx (hb hby at_28) rfl rfl ?_
  refine own_sipush X9 hx (255 : Int32) (hb hby at_29) (by decide) rfl ?_
  refine own_iand X9 hx (hb hby at_32) rfl ?_
  refine own_i2c X9 hx (hb hby at_33) rfl ?_
  have hc12 := own_ch p2
  generalize ((p2 &&& (255 : Int32)).toUInt32.toUInt16.toUInt32.toInt32) = c12 at hc12 ⊢
  refine own_stC X9 hx hZ e9 V9 ⟨by decide, by decide⟩ 0 rfl (Nat.le_of_ble_eq_true rfl) (own_narC hc12) N7 g_b9 (hb hby at_34) rfl ?_
  intro T13 h13 X13 e13 W13 N13 V13
  have HH14 := HH11.wr W13 (Safe.arv hZ.alike V9 (by decide))
  refine own_astore X13 hx #[.val (.int p1), .val (.int p2), .val (.int p3), .val (.int p4), .val (.int p5), .val (.ref b1), .val (.ref b9), .unset, .unset, .unset, .unset, .unset, .unset, .unset, .unset, .unset, .unset, .unset] (hb hby at_35) rfl rfl rfl ?_
  refine own_new X13 hx hZ hown (hw _ (List.mem_of_getElem? (i := 1) rfl)) (hw _ (List.mem_of_getElem? (i := 2) rfl)) (hw _ (List.mem_of_getElem? (i := 3) rfl)) e13 (hb hby at_37) (by decide) (by decide) rfl ?_
  intro T15 h15 b15 X15 e15 g15 E15 A15 D15
  have f16 := ((f10.ext E9).wr W13 g_b9)
  have g_b15 : n0 ≤ b15 := Nat.le_trans (own_oz f16) (Nat.le_of_eq g15.symm)
  have HH17 := HH14.ext E15
  have Y_b15 := own_sfN g15 E15 HH14
  have Fb15_coder : Fld Z h15 b15 "java/lang/String" "coder" "B" (.int (0 : Int32)) := D15 (Or.inr (hw _ (List.mem_of_getElem? (i := 27) rfl))) (ty := .byte) (by decide)
  have Fb15_value : Fld Z h15 b15 "java/lang/String" "value" "[B" .null := D15 (Or.inr (hw _ (List.mem_of_getElem? (i := 29) rfl))) (ty := (.array .byte)) (by decide)
  refine own_dup X15 hx (hb hby at_40) rfl rfl ?_
  refine own_aload X15 hx (hb hby at_41) rfl rfl rfl ?_
  have hp_b15 : ∀ c ∈ ([c3, c6] : List Int32), ¬ c < 0 ∧ ¬ (255 : Int32) < c := (own_c2 hc3 (own_c2 hc6 own_c0))
  have f18 := (((V7.ext E9).other W13 (Nat.ne_of_lt (Nat.lt_of_lt_of_le V7.lt (Nat.le_of_eq g9.symm)))).ext E15)
  have f19 := (f16.ext E15)
  refine own_specialB X15 hx hZ (y := (⟨"java/lang/String", "<init>", "([C)V"⟩ : MethodName)) rfl hown (hw _ (List.mem_of_getElem? (i := 4) rfl)) (hw _ (List.mem_of_getElem? (i := 5) rfl)) (hw _ (List.mem_of_getElem? (i := 6) rfl)) (by decide) e15 (W := 1) (ce := 1) (sl := 2) (by decide) (by decide) [(.ref b1)] [(.ref b15)] (by rw [hml]; rfl) (a := b15) (StrChars.Road.QV Z b15 (2 : Int32) (([c3, c6] : List Int32).map (fun c => c.toInt8.toInt32)) h15 n0) (StrChars.Road.backV (W := 1) hZ (own_hws hw) (kI := 4) (hw _ (List.mem_of_getElem? (i := 2) rfl)) (cs := ([c3, c6] : List Int32)) (bs := (([c3, c6] : List Int32).map (fun c => c.toInt8.toInt32))) (n := 2) g_b15 (own_oz f19) A15 Fb15_value Fb15_coder f18 (SC.ext f19.2) hzc rfl rfl (by decide) (by decide) hp_b15 rfl (by decide) (by decide)) own_pd9 rfl rfl rfl (hb hby at_43) rfl ?_
  intro v20 T20 L20 X20 hQ20
  obtain ⟨rfl, Nq20, Kq20, Es20, Cs20, t20, kb20, gt20, st20, nt20, Vs20, Ks20⟩ := hQ20
  have N20 := Fr.app N13 Nq20
  have HH21 := HH17.keep Kq20 (sfS Y_b15 sf0)
  have co20 : StrChars.Road.CodA ([c3, c6] : List Int32) 0 (2 : Int32) (((([c3, c6] : List Int32).map (fun c => c.toInt8.toInt32))).map Value.int) := StrChars.Road.codOf (n := 2) rfl (fun c hc => (hp_b15 c hc).2)
  have hb20 := own_up hp_b15
  show own_Ends p e below _ (T20.setTop (mkF m 46 #[.val (.int p1), .val (.int p2), .val (.int p3), .val (.int p4), .val (.int p5), .val (.ref b1), .val (.ref b9), .unset, .unset, .unset, .unset, .unset, .unset, .unset, .unset, .unset, .unset, .unset] [(.ref b15)]))
  refine own_astore X20 hx #[.val (.int p1), .val (.int p2), .val (.int p3), .val (.int p4), .val (.int p5), .val (.ref b1), .val (.ref b9), .val (.ref b15), .unset, .unset, .unset, .unset, .unset, .unset, .unset, .unset, .unset, .unset] (hb hby at_46) rfl rfl rfl ?_
  refine own_new X20 hx hZ hown (hw _ (List.mem_of_getElem? (i := 1) rfl)) (hw _ (List.mem_of_getElem? (i := 2) rfl)) (hw _ (List.mem_of_getElem? (i := 3) rfl)) rfl (hb hby at_48) (by decide) (by decide) rfl ?_
  intro T22 h22 b22 X22 e22 g22 E22 A22 D22
  have f23 := (f19.keep Kq20 (allS g_b15 all0))
  have g_b22 : n0 ≤ b22 := Nat.le_trans (own_oz f23) (Nat.le_of_eq g22.symm)
  have HH24 := HH21.ext E22
  have Y_b22 := own_sfN g22 E22 HH21
  have Fb22_coder : Fld Z h22 b22 "java/lang/String" "coder" "B" (.int (0 : Int32)) := D22 (Or.inr (hw _ (List.mem_of_getElem? (i := 27) rfl))) (ty := .byte) (by decide)
  have Fb22_value : Fld Z h22 b22 "java/lang/String" "value" "[B" .null := D22 (Or.inr (hw _ (List.mem_of_getElem? (i := 29) rfl))) (ty := (.array .byte)) (by decide)
  refine own_dup X22 hx (hb hby at_51) rfl rfl ?_
  refine own_aload X22 hx (hb hby at_52) rfl rfl rfl ?_
  have hp_b22 : ∀ c ∈ ([c12] : List Int32), ¬ c < 0 ∧ ¬ (255 : Int32) < c := (own_c2 hc12 own_c0)
  have f25 := (((V13.ext E15).keep Kq20 (ninS (Nat.ne_of_lt (Nat.lt_of_lt_of_le V13.lt (Nat.le_of_eq g15.symm))) nin0)).ext E22)
  have f26 := (f23.ext E22)
  refine own_specialB X22 hx hZ (y := (⟨"java/lang/String", "<init>", "([C)V"⟩ : MethodName)) rfl hown (hw _ (List.mem_of_getElem? (i := 4) rfl)) (hw _ (List.mem_of_getElem? (i := 5) rfl)) (hw _ (List.mem_of_getElem? (i := 6) rfl)) (by decide) e22 (W := 1) (ce := 1) (sl := 1) (by decide) (by decide) [(.ref b9)] [(.ref b22)] (by rw [hml]; rfl) (a := b22) (StrChars.Road.QV Z b22 (1 : Int32) (([c12] : List Int32).map (fun c => c.toInt8.toInt32)) h22 n0) (StrChars.Road.backV (W := 1) hZ (own_hws hw) (kI := 4) (hw _ (List.mem_of_getElem? (i := 2) rfl)) (cs := ([c12] : List Int32)) (bs := (([c12] : List Int32).map (fun c => c.toInt8.toInt32))) (n := 1) g_b22 (own_oz f26) A22 Fb22_value Fb22_coder f25 (SC.ext f26.2) hzc rfl rfl (by decide) (by decide) hp_b22 rfl (by decide) (by decide)) own_pd9 rfl rfl rfl (hb hby at_54) rfl ?_
  intro v27 T27 L27 X27 hQ27
  obtain ⟨rfl, Nq27, Kq27, Es27, Cs27, t27, kb27, gt27, st27, nt27, Vs27, Ks27⟩ := hQ27
  have N27 := Fr.app N20 Nq27
  have HH28 := HH24.keep Kq27 (sfS Y_b22 sf0)
  have co27 : StrChars.Road.CodA ([c12] : List Int32) 0 (1 : Int32) (((([c12] : List Int32).map (fun c => c.toInt8.toInt32))).map Value.int) := StrChars.Road.codOf (n := 1) rfl (fun c hc => (hp_b22 c hc).2)
  have hb27 := own_up hp_b22
  show own_Ends p e below _ (T27.setTop (mkF m 57 #[.val (.int p1), .val (.int p2), .val (.int p3), .val (.int p4), .val (.int p5), .val (.ref b1), .val (.ref b9), .val (.ref b15), .unset, .unset, .unset, .unset, .unset, .unset, .unset, .unset, .unset, .unset] [(.ref b22)]))
  refine own_astore X27 hx #[.val (.int p1), .val (.int p2), .val (.int p3), .val (.int p4), .val (.int p5), .val (.ref b1), .val (.ref b9), .val (.ref b15), .val (.ref b22), .unset, .unset, .unset, .unset, .unset, .unset, .unset, .unset, .unset] (hb hby at_57) rfl rfl rfl ?_
  refine own_new X27 hx hZ hown (hw _ (List.mem_of_getElem? (i := 1) rfl)) (hw _ (List.mem_of_getElem? (i := 2) rfl)) (hw _ (List.mem_of_getElem? (i := 3) rfl)) rfl (hb hby at_59) (by decide) (by decide) rfl ?_
  intro T29 h29 b29 X29 e29 g29 E29 A29 D29
  have f30 := (f26.keep Kq27 (allS g_b22 all0))
  have g_b29 : n0 ≤ b29 := Nat.le_trans (own_oz f30) (Nat.le_of_eq g29.symm)
  have HH31 := HH28.ext E29
  have Y_b29 := own_sfN g29 E29 HH28
  have Fb29_coder : Fld Z h29 b29 "java/lang/String" "coder" "B" (.int (0 : Int32)) := D29 (Or.inr (hw _ (List.mem_of_getElem? (i := 27) rfl))) (ty := .byte) (by decide)
  have Fb29_value : Fld Z h29 b29 "java/lang/String" "value" "[B" .null := D29 (Or.inr (hw _ (List.mem_of_getElem? (i := 29) rfl))) (ty := (.array .byte)) (by decide)
  refine own_dup X29 hx (hb hby at_62) rfl rfl ?_
  refine own_iconst X29 hx (0 : Int32) (hb hby at_63) (by decide) rfl ?_
  refine own_newP X29 hx hZ (aty := .char) (hw _ (List.mem_of_getElem? (i := 0) rfl)) e29 (hb hby at_64) (by decide) 0 (by decide) (by decide) (by decide) (by decide) rfl ?_
  intro T32 h32 b32 k32 X32 e32 g32 E32 V32q
  have f33 := (f30.ext E29)
  have g_b32 : n0 ≤ b32 := Nat.le_trans (own_oz f33) (Nat.le_of_eq g32.symm)
  have HH34 := HH31.ext E32
  have V32 : Arv Z h32 b32 k32 .char (0 : Int32) [] (.int (0 : Int32)) := V32q
  have f35 := (f33.ext E32)
  have f36 := (A29.ext E32)
  have f37 := (Fb29_value.ext E32)
  have f38 := (Fb29_coder.ext E32)
  refine own_specialH X32 hx hZ (y := (⟨"java/lang/String", "<init>", "([C)V"⟩ : MethodName)) rfl hown (hw _ (List.mem_of_getElem? (i := 4) rfl)) (hw _ (List.mem_of_getElem? (i := 5) rfl)) (hw _ (List.mem_of_getElem? (i := 3) rfl)) (hw _ (List.mem_of_getElem? (i := 6) rfl)) (by decide) HH34 hEL e32 (by decide) (W := 1) (by decide) (by decide) (by decide) [(.ref b32)] [(.ref b29)] (by rw [hml]; rfl) (a := b29) (own_s1 l Z a0 hw b29 b32 _ h32 n0 hEL f35 g_b29 f36 f37 f38 V32) own_pd9 rfl rfl rfl (hb hby at_66) rfl ?_
  intro v39 T39 L39 X39 hQ39 hZ hown HH39 A39
  obtain ⟨rfl, Nq39, Kq39, Ss39⟩ := hQ39
  have N39 := Fr.app N27 Nq39
  obtain ⟨t39, kb39, cd39, Nn39, vs39, Es39, Vs39, Cs39, Ks39, cod39, hbd39, hle39⟩ := Ss39
  show own_Ends p e below _ (T39.setTop (mkF m 69 #[.val (.int p1), .val (.int p2), .val (.int p3), .val (.int p4), .val (.int p5), .val (.ref b1), .val (.ref b9), .val (.ref b15), .val (.ref b22), .unset, .unset, .unset, .unset, .unset, .unset, .unset, .unset, .unset] [(.ref b29)]))
  refine own_astore X39 hx #[.val (.int p1), .val (.int p2), .val (.int p3), .val (.int p4), .val (.int p5), .val (.ref b1), .val (.ref b9), .val (.ref b15), .val (.ref b22), .val (.ref b29), .unset, .unset, .unset, .unset, .unset, .unset, .unset, .unset] (hb hby at_69) rfl rfl rfl ?_
  refine own_iloadN X39 hx (hb hby at_71) rfl rfl ?_
  refine own_sipush X39 hx (255 : Int32) (hb hby at_72) (by decide) rfl ?_
  refine own_iand X39 hx (hb hby at_75) rfl ?_
  refine own_i2c X39 hx (hb hby at_76) rfl ?_
  have hc40 := own_ch p4
  generalize ((p4 &&& (255 : Int32)).toUInt32.toUInt16.toUInt32.toInt32) = c40 at hc40 ⊢
  have f41 := (f35.keep Kq39 (allS g_b29 all0))
  refine own_static X39 hx hZ (y := (⟨"java/lang/String", "valueOf", "(C)Ljava/lang/String;"⟩ : MethodName)) hown (hw _ (List.mem_of_getElem? (i := 33) rfl)) (hw _ (List.mem_of_getElem? (i := 34) rfl)) (hw _ (List.mem_of_getElem? (i := 3) rfl)) (hw _ (List.mem_of_getElem? (i := 35) rfl)) (by decide) rfl (by decide) (W := 0) (by decide) (by decide) (by decide) [(.int c40)] [] (by rw [hml]; rfl) (own_valueOf l Z a0 hw c40 zc T39.heap n0 f41 SC hzc hc40) own_pd10 rfl rfl rfl (hb hby at_77) rfl ?_
  intro v42 T42 L42 X42 hQ42
  obtain ⟨a42, rfl, Nq42, Kq42, g_a42, sz_a42, Ss42⟩ := hQ42
  have N42 := Fr.app N39 Nq42
  have HH43 := HH39.keep Kq42 sf0
  obtain ⟨t42, kb42, cd42, Nn42, vs42, Es42, Vs42, Cs42, Ks42, cod42, hbd42, hle42⟩ := Ss42
  show own_Ends p e below _ (T42.setTop (mkF m 80 #[.val (.int p1), .val (.int p2), .val (.int p3), .val (.int p4), .val (.int p5), .val (.ref b1), .val (.ref b9), .val (.ref b15), .val (.ref b22), .val (.ref b29), .unset, .unset, .unset, .unset, .unset, .unset, .unset, .unset] [(.ref a42)]))
  refine own_astore X42 hx #[.val (.int p1), .val (.int p2), .val (.int p3), .val (.int p4), .val (.int p5), .val (.ref b1), .val (.ref b9), .val (.ref b15), .val (.ref b22), .val (.ref b29), .val (.ref a42), .unset, .unset, .unset, .unset, .unset, .unset, .unset] (hb hby at_80) rfl rfl rfl ?_
  refine own_iloadN X42 hx (hb hby at_82) rfl rfl ?_
  refine own_iconst X42 hx (3 : Int32) (hb hby at_83) (by decide) rfl ?_
  refine own_iand X42 hx (hb hby at_84) rfl ?_
  refine own_istore X42 hx #[.val (.int p1), .val (.int p2), .val (.int p3), .val (.int p4), .val (.int p5), .val (.ref b1), .val (.ref b9), .val (.ref b15), .val (.ref b22), .val (.ref b29), .val (.ref a42), .val (.int (p1 &&& (3 : Int32))), .unset, .unset, .unset, .unset, .unset, .unset] (hb hby at_85) rfl rfl ?_
  refine own_iload X42 hx (hb hby at_87) rfl rfl ?_
  refine own_if_ne X42 hx (hb hby at_89) (by decide) rfl rfl (fun hc89_44 => ?_) (fun hc89_44 => ?_)
  · refine own_iload X42 hx (hb hby at_96) rfl rfl ?_
    refine own_iconst X42 hx (1 : Int32) (hb hby at_98) (by decide) rfl ?_
    refine own_icmp_ne X42 hx (hb hby at_99) (by decide) rfl rfl (fun hc99_45 => ?_) (fun hc99_45 => ?_)
    · refine own_iload X42 hx (hb hby at_107) rfl rfl ?_
      refine own_iconst X42 hx (2 : Int32) (hb hby at_109) (by decide) rfl ?_
      refine own_icmp_ne X42 hx (hb hby at_110) (by decide) rfl rfl (fun hc110_46 => ?_) (fun hc110_46 => ?_)
      · refine own_aload X42 hx (hb hby at_118) rfl rfl rfl ?_
        refine own_astore X42 hx #[.val (.int p1), .val (.int p2), .val (.int p3), .val (.int p4), .val (.int p5), .val (.ref b1), .val (.ref b9), .val (.ref b15), .val (.ref b22), .val (.ref b29), .val (.ref a42), .val (.int (p1 &&& (3 : Int32))), .val (.ref b15), .unset, .unset, .unset, .unset, .unset] (hb hby at_120) rfl rfl rfl ?_
        refine own_iload X42 hx (hb hby at_122) rfl rfl ?_
        refine own_iconst X42 hx (2 : Int32) (hb hby at_124) (by decide) rfl ?_
        refine own_iand X42 hx (hb hby at_125) rfl ?_
        refine own_if_ne X42 hx (hb hby at_126) (by decide) rfl rfl (fun hc126_47 => ?_) (fun hc126_47 => ?_)
        · refine own_iconst X42 hx (0 : Int32) (hb hby at_133) (by decide) rfl ?_
          refine own_istore X42 hx #[.val (.int p1), .val (.int p2), .val (.int p3), .val (.int p4), .val (.int p5), .val (.ref b1), .val (.ref b9), .val (.ref b15), .val (.ref b22), .val (.ref b29), .val (.ref a42), .val (.int (p1 &&& (3 : Int32))), .val (.ref b15), .val (.int (0 : Int32)), .unset, .unset, .unset, .unset] (hb hby at_134) rfl rfl ?_
          refine own_new X42 hx hZ hown (hw _ (List.mem_of_getElem? (i := 47) rfl)) (hw _ (List.mem_of_getElem? (i := 48) rfl)) (hw _ (List.mem_of_getElem? (i := 49) rfl)) rfl (hb hby at_136) (by decide) (by decide) rfl ?_
          intro T48 h48 b48 X48 e48 g48 E48 A48 D48
          have f49 := (f41.keep Kq42 all0)
          have g_b48 : n0 ≤ b48 := Nat.le_trans (own_oz f49) (Nat.le_of_eq g48.symm)
          have HH50 := HH43.ext E48
          have Fb48_modCount : Fld Z h48 b48 "java/util/AbstractList" "modCount" "I" (.int (0 : Int32)) := D48 (Or.inl (hw _ (List.mem_of_getElem? (i := 67) rfl))) (ty := .int) (by decide)
          have Fb48_elementData : Fld Z h48 b48 "java/util/ArrayList" "elementData" "[Ljava/lang/Object;" .null := D48 (Or.inl (hw _ (List.mem_of_getElem? (i := 70) rfl))) (ty := (.array (.object "java/lang/Object"))) (by decide)
          have Fb48_size : Fld Z h48 b48 "java/util/ArrayList" "size" "I" (.int (0 : Int32)) := D48 (Or.inl (hw _ (List.mem_of_getElem? (i := 102) rfl))) (ty := .int) (by decide)
          refine own_dup X48 hx (hb hby at_139) rfl rfl ?_
          have f51 := (f49.ext E48)
          refine own_special X48 hx hZ (y := (⟨"java/util/ArrayList", "<init>", "()V"⟩ : MethodName)) rfl hown (hw _ (List.mem_of_getElem? (i := 50) rfl)) (hw _ (List.mem_of_getElem? (i := 51) rfl)) (hw _ (List.mem_of_getElem? (i := 49) rfl)) (hw _ (List.mem_of_getElem? (i := 52) rfl)) (by decide) e48 (by decide) (W := 1) (by decide) (by decide) (by decide) [] [(.ref b48)] (by rw [hml]; rfl) (a := b48) (own_ali l Z a0 hw b48 de kd h48 n0 f51 g_b48 SD VD A48 D48) own_pd4 rfl rfl rfl (hb hby at_140) rfl ?_
          intro v52 T52 L52 X52 hQ52
          obtain ⟨rfl, Nq52, Kq52, Al52⟩ := hQ52
          have N52 := Fr.app N42 Nq52
          have HH53 := HH50.keep Kq52 (sfS (Safe.exa hZ.alike A48 (by decide) (by decide)) sf0)
          obtain ⟨El52, Ml52, Dl52, Sl52⟩ := Al52
          show own_Ends p e below _ (T52.setTop (mkF m 143 #[.val (.int p1), .val (.int p2), .val (.int p3), .val (.int p4), .val (.int p5), .val (.ref b1), .val (.ref b9), .val (.ref b15), .val (.ref b22), .val (.ref b29), .val (.ref a42), .val (.int (p1 &&& (3 : Int32))), .val (.ref b15), .val (.int (0 : Int32)), .unset, .unset, .unset, .unset] [(.ref b48)]))
          refine own_astore X52 hx #[.val (.int p1), .val (.int p2), .val (.int p3), .val (.int p4), .val (.int p5), .val (.ref b1), .val (.ref b9), .val (.ref b15), .val (.ref b22), .val (.ref b29), .val (.ref a42), .val (.int (p1 &&& (3 : Int32))), .val (.ref b15), .val (.int (0 : Int32)), .val (.ref b48), .unset, .unset, .unset] (hb hby at_143) rfl rfl rfl ?_
          refine own_aconst_null X52 hx (hb hby at_145) rfl ?_
          refine own_astore X52 hx #[.val (.int p1), .val (.int p2), .val (.int p3), .val (.int p4), .val (.int p5), .val (.ref b1), .val (.ref b9), .val (.ref b15), .val (.ref b22), .val (.ref b29), .val (.ref a42), .val (.int (p1 &&& (3 : Int32))), .val (.ref b15), .val (.int (0 : Int32)), .val (.ref b48), .val .null, .unset, .unset] (hb hby at_146) rfl rfl rfl ?_
          refine own_iload X52 hx (hb hby at_148) rfl rfl ?_
          refine own_iconst X52 hx (1 : Int32) (hb hby at_150) (by decide) rfl ?_
          refine own_iand X52 hx (hb hby at_151) rfl ?_
          refine own_if_eq X52 hx (hb hby at_152) (by decide) rfl rfl (fun hc152_54 => ?_) (fun hc152_54 => ?_)
          · refine own_new X52 hx hZ hown (hw _ (List.mem_of_getElem? (i := 71) rfl)) (hw _ (List.mem_of_getElem? (i := 72) rfl)) (hw _ (List.mem_of_getElem? (i := 73) rfl)) rfl (hb hby at_192) (by decide) (by decide) rfl ?_
            intro T55 h55 b55 X55 e55 g55 E55 A55 D55
            have f56 := (f51.keep Kq52 (allS g_b48 all0))
            have g_b55 : n0 ≤ b55 := Nat.le_trans (own_oz f56) (Nat.le_of_eq g55.symm)
            have HH57 := HH53.ext E55
            have Fb55_name : Fld Z h55 b55 "com/example/ledgerleaf/ledgerleaf/Element" "name" "Ljava/lang/String;" .null := D55 (Or.inr (hw _ (List.mem_of_getElem? (i := 84) rfl))) (ty := (.object "java/lang/String")) (by decide)
            have Fb55_text : Fld Z h55 b55 "com/example/ledgerleaf/ledgerleaf/Element" "text" "Ljava/lang/String;" .null := D55 (Or.inr (hw _ (List.mem_of_getElem? (i := 86) rfl))) (ty := (.object "java/lang/String")) (by decide)
            have Fb55_children : Fld Z h55 b55 "com/example/ledgerleaf/ledgerleaf/Element" "children" "Ljava/util/List;" .null := D55 (Or.inr (hw _ (List.mem_of_getElem? (i := 88) rfl))) (ty := (.object "java/util/List")) (by decide)
            refine own_dup X55 hx (hb hby at_195) rfl rfl ?_
            refine own_aload X55 hx (hb hby at_196) rfl rfl rfl ?_
            refine own_aload X55 hx (hb hby at_198) rfl rfl rfl ?_
            refine own_aload X55 hx (hb hby at_200) rfl rfl rfl ?_
            refine own_special X55 hx hZ (y := (⟨"com/example/ledgerleaf/ledgerleaf/Element", "<init>", "(Ljava/lang/String;Ljava/lang/String;Ljava/util/List;)V"⟩ : MethodName)) rfl hown (hw _ (List.mem_of_getElem? (i := 74) rfl)) (hw _ (List.mem_of_getElem? (i := 75) rfl)) (hw _ (List.mem_of_getElem? (i := 73) rfl)) (hw _ (List.mem_of_getElem? (i := 76) rfl)) (by decide) e55 (by decide) (W := 1) (by decide) (by decide) (by decide) [(.ref a42), (.ref b15), (.ref b48)] [(.ref b55)] (by rw [hml]; rfl) (a := b55) (own_elR l Z a0 hw b55 a42 b15 b48 h55 n0 g_b55 A55 D55) own_pd11 rfl rfl rfl (hb hby at_202) rfl ?_
            intro v58 T58 L58 X58 hQ58
            obtain ⟨rfl, Nq58, Kq58, Ee58, Ft58⟩ := hQ58
            have N58 := Fr.app N52 Nq58
            have HH59 := HH57.keep Kq58 (sfS (Safe.exa hZ.alike A55 (by decide) (by decide)) sf0)
            show own_Ends p e below _ (T58.setTop (mkF m 205 #[.val (.int p1), .val (.int p2), .val (.int p3), .val (.int p4), .val (.int p5), .val (.ref b1), .val (.ref b9), .val (.ref b15), .val (.ref b22), .val (.ref b29), .val (.ref a42), .val (.int (p1 &&& (3 : Int32))), .val (.ref b15), .val (.int (0 : Int32)), .val (.ref b48), .val .null, .unset, .unset] [(.ref b55)]))
            refine own_astore X58 hx #[.val (.int p1), .val (.int p2), .val (.int p3), .val (.int p4), .val (.int p5), .val (.ref b1), .val (.ref b9), .val (.ref b15), .val (.ref b22), .val (.ref b29), .val (.ref a42), .val (.int (p1 &&& (3 : Int32))), .val (.ref b15), .val (.int (0 : Int32)), .val (.ref b48), .val .null, .val (.ref b55), .unset] (hb hby at_205) rfl rfl rfl ?_
            refine own_iload X58 hx (hb hby at_207) rfl rfl ?_
            refine own_ifF X58 hx (hb hby at_209) rfl (feq hc89_44).1 ?_
            refine own_iconst X58 hx (1 : Int32) (hb hby at_212) (by decide) rfl ?_
            refine own_goto X58 hx (hb hby at_213) (by decide) rfl ?_
            refine own_istore X58 hx #[.val (.int p1), .val (.int p2), .val (.int p3), .val (.int p4), .val (.int p5), .val (.ref b1), .val (.ref b9), .val (.ref b15), .val (.ref b22), .val (.ref b29), .val (.ref a42), .val (.int (p1 &&& (3 : Int32))), .val (.ref b15), .val (.int (0 : Int32)), .val (.ref b48), .val .null, .val (.ref b55), .val (.int (1 : Int32))] (hb hby at_217) rfl rfl ?_
            refine own_aload X58 hx (hb hby at_219) rfl rfl rfl ?_
            refine own_virtual X58 hx hZ (y := (⟨"com/example/ledgerleaf/ledgerleaf/Element", "holdsText", "()Z"⟩ : MethodName)) (z := (⟨"com/example/ledgerleaf/ledgerleaf/Element", "holdsText", "()Z"⟩ : MethodName)) hown (hw _ (List.mem_of_getElem? (i := 89) rfl)) (hw _ (List.mem_of_getElem? (i := 90) rfl)) (notFace_of_selects (args := #[]) (mvT hZ (hw _ (List.mem_of_getElem? (i := 92) rfl)))) (hw _ (List.mem_of_getElem? (i := 92) rfl)) (hw _ (List.mem_of_getElem? (i := 91) rfl)) (hw _ (List.mem_of_getElem? (i := 73) rfl)) (hw _ (List.mem_of_getElem? (i := 93) rfl)) (by decide) rfl (by decide) (W := 0) (by decide) (by decide) (by decide) [] [] (by rw [hml]; rfl) Ee58 (own_holdR l Z a0 hw b55 b15 T58.heap n0 Ft58) own_pd12 rfl rfl rfl (hb hby at_221) rfl ?_
            intro v60 T60 L60 X60 hQ60
            obtain ⟨rfl, Nq60, hh60⟩ := hQ60
            have N60 := Fr.app N58 Nq60
            show own_Ends p e below _ (T60.setTop (mkF m 224 #[.val (.int p1), .val (.int p2), .val (.int p3), .val (.int p4), .val (.int p5), .val (.ref b1), .val (.ref b9), .val (.ref b15), .val (.ref b22), .val (.ref b29), .val (.ref a42), .val (.int (p1 &&& (3 : Int32))), .val (.ref b15), .val (.int (0 : Int32)), .val (.ref b48), .val .null, .val (.ref b55), .val (.int (1 : Int32))] [(.int (1 : Int32))]))
            refine own_iload X60 hx (hb hby at_224) rfl rfl ?_
            refine own_icmpT X60 hx (hb hby at_226) (by decide) rfl (by decide) ?_
            refine own_aload X60 hx (hb hby at_231) rfl rfl rfl ?_
            refine own_ifnullT X60 hx (hb hby at_233) (by decide) rfl ?_
            refine own_iconst X60 hx (1 : Int32) (hb hby at_248) (by decide) rfl ?_
            exact own_retNH X60 hx hZ hh60 HH59 hEL hlocks hret (by simp) (hb hby at_249) (by decide) (by decide) (by decide) ⟨rfl, N60⟩
          · refine own_new X52 hx hZ hown (hw _ (List.mem_of_getElem? (i := 71) rfl)) (hw _ (List.mem_of_getElem? (i := 72) rfl)) (hw _ (List.mem_of_getElem? (i := 73) rfl)) rfl (hb hby at_155) (by decide) (by decide) rfl ?_
            intro T61 h61 b61 X61 e61 g61 E61 A61 D61
            have f62 := (f51.keep Kq52 (allS g_b48 all0))
            have g_b61 : n0 ≤ b61 := Nat.le_trans (own_oz f62) (Nat.le_of_eq g61.symm)
            have HH63 := HH53.ext E61
            have Fb61_name : Fld Z h61 b61 "com/example/ledgerleaf/ledgerleaf/Element" "name" "Ljava/lang/String;" .null := D61 (Or.inr (hw _ (List.mem_of_getElem? (i := 84) rfl))) (ty := (.object "java/lang/String")) (by decide)
            have Fb61_text : Fld Z h61 b61 "com/example/ledgerleaf/ledgerleaf/Element" "text" "Ljava/lang/String;" .null := D61 (Or.inr (hw _ (List.mem_of_getElem? (i := 86) rfl))) (ty := (.object "java/lang/String")) (by decide)
            have Fb61_children : Fld Z h61 b61 "com/example/ledgerleaf/ledgerleaf/Element" "children" "Ljava/util/List;" .null := D61 (Or.inr (hw _ (List.mem_of_getElem? (i := 88) rfl))) (ty := (.object "java/util/List")) (by decide)
            refine own_dup X61 hx (hb hby at_158) rfl rfl ?_
            refine own_aload X61 hx (hb hby at_159) rfl rfl rfl ?_
            refine own_iload X61 hx (hb hby at_161) rfl rfl ?_
            refine own_ifT X61 hx (hb hby at_163) (by decide) rfl (by decide) ?_
            refine own_aconst_null X61 hx (hb hby at_171) rfl ?_
            refine own_new X61 hx hZ hown (hw _ (List.mem_of_getElem? (i := 47) rfl)) (hw _ (List.mem_of_getElem? (i := 48) rfl)) (hw _ (List.mem_of_getElem? (i := 49) rfl)) e61 (hb hby at_172) (by decide) (by decide) rfl ?_
            intro T64 h64 b64 X64 e64 g64 E64 A64 D64
            have f65 := (f62.ext E61)
            have g_b64 : n0 ≤ b64 := Nat.le_trans (own_oz f65) (Nat.le_of_eq g64.symm)
            have HH66 := HH63.ext E64
            have Fb64_modCount : Fld Z h64 b64 "java/util/AbstractList" "modCount" "I" (.int (0 : Int32)) := D64 (Or.inl (hw _ (List.mem_of_getElem? (i := 67) rfl))) (ty := .int) (by decide)
            have Fb64_elementData : Fld Z h64 b64 "java/util/ArrayList" "elementData" "[Ljava/lang/Object;" .null := D64 (Or.inl (hw _ (List.mem_of_getElem? (i := 70) rfl))) (ty := (.array (.object "java/lang/Object"))) (by decide)
            have Fb64_size : Fld Z h64 b64 "java/util/ArrayList" "size" "I" (.int (0 : Int32)) := D64 (Or.inl (hw _ (List.mem_of_getElem? (i := 102) rfl))) (ty := .int) (by decide)
            refine own_dup X64 hx (hb hby at_175) rfl rfl ?_
            have f67 := (f65.ext E64)
            refine own_special X64 hx hZ (y := (⟨"java/util/ArrayList", "<init>", "()V"⟩ : MethodName)) rfl hown (hw _ (List.mem_of_getElem? (i := 50) rfl)) (hw _ (List.mem_of_getElem? (i := 51) rfl)) (hw _ (List.mem_of_getElem? (i := 49) rfl)) (hw _ (List.mem_of_getElem? (i := 52) rfl)) (by decide) e64 (by decide) (W := 5) (by decide) (by decide) (by decide) [] [(.ref b64), .null, (.ref a42), (.ref b61), (.ref b61)] (by rw [hml]; rfl) (a := b64) (own_ali l Z a0 hw b64 de kd h64 n0 f67 g_b64 SD VD A64 D64) own_pd4 rfl rfl rfl (hb hby at_176) rfl ?_
            intro v68 T68 L68 X68 hQ68
            obtain ⟨rfl, Nq68, Kq68, Al68⟩ := hQ68
            have N68 := Fr.app N52 Nq68
            have HH69 := HH66.keep Kq68 (sfS (Safe.exa hZ.alike A64 (by decide) (by decide)) sf0)
            obtain ⟨El68, Ml68, Dl68, Sl68⟩ := Al68
            show own_Ends p e below _ (T68.setTop (mkF m 179 #[.val (.int p1), .val (.int p2), .val (.int p3), .val (.int p4), .val (.int p5), .val (.ref b1), .val (.ref b9), .val (.ref b15), .val (.ref b22), .val (.ref b29), .val (.ref a42), .val (.int (p1 &&& (3 : Int32))), .val (.ref b15), .val (.int (0 : Int32)), .val (.ref b48), .val .null, .unset, .unset] [(.ref b64), .null, (.ref a42), (.ref b61), (.ref b61)]))
            have f70 := ((A61.ext E64).keep Kq68)
            refine own_special X68 hx hZ (y := (⟨"com/example/ledgerleaf/ledgerleaf/Element", "<init>", "(Ljava/lang/String;Ljava/lang/String;Ljava/util/List;)V"⟩ : MethodName)) rfl hown (hw _ (List.mem_of_getElem? (i := 74) rfl)) (hw _ (List.mem_of_getElem? (i := 75) rfl)) (hw _ (List.mem_of_getElem? (i := 73) rfl)) (hw _ (List.mem_of_getElem? (i := 76) rfl)) (by decide) rfl (by decide) (W := 1) (by decide) (by decide) (by decide) [(.ref a42), .null, (.ref b64)] [(.ref b61)] (by rw [hml]; rfl) (a := b61) (own_elN l Z a0 hw b61 a42 b64 T68.heap n0 g_b61 f70 (fun L p => (((D61 L p).ext E64).keep Kq68 (ninS (Nat.ne_of_lt (Nat.lt_of_lt_of_le A61.lt (Nat.le_of_eq g64.symm))) nin0)))) own_pd11 rfl rfl rfl (hb hby at_179) rfl ?_
            intro v71 T71 L71 X71 hQ71
            obtain ⟨rfl, Nq71, Kq71, Ee71, Ft71⟩ := hQ71
            have N71 := Fr.app N68 Nq71
            have HH72 := HH69.keep Kq71 (sfS (Safe.exa hZ.alike f70 (by decide) (by decide)) sf0)
            show own_Ends p e below _ (T71.setTop (mkF m 182 #[.val (.int p1), .val (.int p2), .val (.int p3), .val (.int p4), .val (.int p5), .val (.ref b1), .val (.ref b9), .val (.ref b15), .val (.ref b22), .val (.ref b29), .val (.ref a42), .val (.int (p1 &&& (3 : Int32))), .val (.ref b15), .val (.int (0 : Int32)), .val (.ref b48), .val .null, .unset, .unset] [(.ref b61)]))
            refine own_astore X71 hx #[.val (.int p1), .val (.int p2), .val (.int p3), .val (.int p4), .val (.int p5), .val (.ref b1), .val (.ref b9), .val (.ref b15), .val (.ref b22), .val (.ref b29), .val (.ref a42), .val (.int (p1 &&& (3 : Int32))), .val (.ref b15), .val (.int (0 : Int32)), .val (.ref b48), .val (.ref b61), .unset, .unset] (hb hby at_182) rfl rfl rfl ?_
            refine own_aload X71 hx (hb hby at_184) rfl rfl rfl ?_
            refine own_aload X71 hx (hb hby at_186) rfl rfl rfl ?_
            have f73 := ((((El52.ext E61).ext E64).keep Kq68).keep Kq71)
            have f74 := ((f67.keep Kq68 (allS g_b64 all0)).keep Kq71 (allS g_b61 all0))
            have f75 := ((((Ml52.ext E61).ext E64).keep Kq68 (ninS (Nat.ne_of_lt (Nat.lt_of_lt_of_le (El52.ext E61).lt (Nat.le_of_eq g64.symm))) nin0)).keep Kq71 (ninS (Nat.ne_of_lt (Nat.lt_of_lt_of_le El52.lt (Nat.le_of_eq g61.symm))) nin0))
            have f76 := ((((Dl52.ext E61).ext E64).keep Kq68 (ninS (Nat.ne_of_lt (Nat.lt_of_lt_of_le (El52.ext E61).lt (Nat.le_of_eq g64.symm))) nin0)).keep Kq71 (ninS (Nat.ne_of_lt (Nat.lt_of_lt_of_le El52.lt (Nat.le_of_eq g61.symm))) nin0))
            have f77 := ((((Sl52.ext E61).ext E64).keep Kq68 (ninS (Nat.ne_of_lt (Nat.lt_of_lt_of_le (El52.ext E61).lt (Nat.le_of_eq g64.symm))) nin0)).keep Kq71 (ninS (Nat.ne_of_lt (Nat.lt_of_lt_of_le El52.lt (Nat.le_of_eq g61.symm))) nin0))
            refine own_virtual X71 hx hZ (y := (⟨"java/util/ArrayList", "add", "(Ljava/lang/Object;)Z"⟩ : MethodName)) (z := (⟨"java/util/ArrayList", "add", "(Ljava/lang/Object;)Z"⟩ : MethodName)) hown (hw _ (List.mem_of_getElem? (i := 94) rfl)) (hw _ (List.mem_of_getElem? (i := 95) rfl)) (notFace_of_selects (args := #[]) (mvT hZ (hw _ (List.mem_of_getElem? (i := 97) rfl)))) (hw _ (List.mem_of_getElem? (i := 97) rfl)) (hw _ (List.mem_of_getElem? (i := 96) rfl)) (hw _ (List.mem_of_getElem? (i := 49) rfl)) (hw _ (List.mem_of_getElem? (i := 98) rfl)) (by decide) rfl (by decide) (W := 0) (by decide) (by decide) (by decide) [(.ref b61)] [] (by rw [hml]; rfl) f73 (own_addE l Z a0 hw b48 b61 de kd (0 : Int32) T71.heap n0 f74 g_b48 SD VD ⟨f73, f75, f76, f77⟩ (Ins.of_exa Ee71 (hw _ (List.mem_of_getElem? (i := 124) rfl)))) own_pd13 rfl rfl rfl (hb hby at_188) rfl ?_
            intro v78 T78 L78 X78 hQ78
            obtain ⟨rfl, Nq78, Kq78, b78, k78, g_b78, sz_b78, Al78, V78, Ov78⟩ := hQ78
            have N78 := Fr.app N71 Nq78
            have HH79 := HH72.keep Kq78 (sfS (Safe.exa hZ.alike f73 (by decide) (by decide)) sf0)
            obtain ⟨El78, Ml78, Dl78, Sl78⟩ := Al78
            show own_Ends p e below _ (T78.setTop (mkF m 191 #[.val (.int p1), .val (.int p2), .val (.int p3), .val (.int p4), .val (.int p5), .val (.ref b1), .val (.ref b9), .val (.ref b15), .val (.ref b22), .val (.ref b29), .val (.ref a42), .val (.int (p1 &&& (3 : Int32))), .val (.ref b15), .val (.int (0 : Int32)), .val (.ref b48), .val (.ref b61), .unset, .unset] [(.int (1 : Int32))]))
            refine own_pop X78 hx (hb hby at_191) rfl rfl ?_
            refine own_new X78 hx hZ hown (hw _ (List.mem_of_getElem? (i := 71) rfl)) (hw _ (List.mem_of_getElem? (i := 72) rfl)) (hw _ (List.mem_of_getElem? (i := 73) rfl)) rfl (hb hby at_192) (by decide) (by decide) rfl ?_
            intro T80 h80 b80 X80 e80 g80 E80 A80 D80
            have f81 := (f74.keep Kq78 (allS g_b48 all0))
            have g_b80 : n0 ≤ b80 := Nat.le_trans (own_oz f81) (Nat.le_of_eq g80.symm)
            have HH82 := HH79.ext E80
            have Fb80_name : Fld Z h80 b80 "com/example/ledgerleaf/ledgerleaf/Element" "name" "Ljava/lang/String;" .null := D80 (Or.inr (hw _ (List.mem_of_getElem? (i := 84) rfl))) (ty := (.object "java/lang/String")) (by decide)
            have Fb80_text : Fld Z h80 b80 "com/example/ledgerleaf/ledgerleaf/Element" "text" "Ljava/lang/String;" .null := D80 (Or.inr (hw _ (List.mem_of_getElem? (i := 86) rfl))) (ty := (.object "java/lang/String")) (by decide)
            have Fb80_children : Fld Z h80 b80 "com/example/ledgerleaf/ledgerleaf/Element" "children" "Ljava/util/List;" .null := D80 (Or.inr (hw _ (List.mem_of_getElem? (i := 88) rfl))) (ty := (.object "java/util/List")) (by decide)
            refine own_dup X80 hx (hb hby at_195) rfl rfl ?_
            refine own_aload X80 hx (hb hby at_196) rfl rfl rfl ?_
            refine own_aload X80 hx (hb hby at_198) rfl rfl rfl ?_
            refine own_aload X80 hx (hb hby at_200) rfl rfl rfl ?_
            refine own_special X80 hx hZ (y := (⟨"com/example/ledgerleaf/ledgerleaf/Element", "<init>", "(Ljava/lang/String;Ljava/lang/String;Ljava/util/List;)V"⟩ : MethodName)) rfl hown (hw _ (List.mem_of_getElem? (i := 74) rfl)) (hw _ (List.mem_of_getElem? (i := 75) rfl)) (hw _ (List.mem_of_getElem? (i := 73) rfl)) (hw _ (List.mem_of_getElem? (i := 76) rfl)) (by decide) e80 (by decide) (W := 1) (by decide) (by decide) (by decide) [(.ref a42), (.ref b15), (.ref b48)] [(.ref b80)] (by rw [hml]; rfl) (a := b80) (own_elR l Z a0 hw b80 a42 b15 b48 h80 n0 g_b80 A80 D80) own_pd11 rfl rfl rfl (hb hby at_202) rfl ?_
            intro v83 T83 L83 X83 hQ83
            obtain ⟨rfl, Nq83, Kq83, Ee83, Ft83⟩ := hQ83
            have N83 := Fr.app N78 Nq83
            have HH84 := HH82.keep Kq83 (sfS (Safe.exa hZ.alike A80 (by decide) (by decide)) sf0)
            show own_Ends p e below _ (T83.setTop (mkF m 205 #[.val (.int p1), .val (.int p2), .val (.int p3), .val (.int p4), .val (.int p5), .val (.ref b1), .val (.ref b9), .val (.ref b15), .val (.ref b22), .val (.ref b29), .val (.ref a42), .val (.int (p1 &&& (3 : Int32))), .val (.ref b15), .val (.int (0 : Int32)), .val (.ref b48), .val (.ref b61), .unset, .unset] [(.ref b80)]))
            refine own_astore X83 hx #[.val (.int p1), .val (.int p2), .val (.int p3), .val (.int p4), .val (.int p5), .val (.ref b1), .val (.ref b9), .val (.ref b15), .val (.ref b22), .val (.ref b29), .val (.ref a42), .val (.int (p1 &&& (3 : Int32))), .val (.ref b15), .val (.int (0 : Int32)), .val (.ref b48), .val (.ref b61), .val (.ref b80), .unset] (hb hby at_205) rfl rfl rfl ?_
            refine own_iload X83 hx (hb hby at_207) rfl rfl ?_
            refine own_ifF X83 hx (hb hby at_209) rfl (feq hc89_44).1 ?_
            refine own_iconst X83 hx (1 : Int32) (hb hby at_212) (by decide) rfl ?_
            refine own_goto X83 hx (hb hby at_213) (by decide) rfl ?_
            refine own_istore X83 hx #[.val (.int p1), .val (.int p2), .val (.int p3), .val (.int p4), .val (.int p5), .val (.ref b1), .val (.ref b9), .val (.ref b15), .val (.ref b22), .val (.ref b29), .val (.ref a42), .val (.int (p1 &&& (3 : Int32))), .val (.ref b15), .val (.int (0 : Int32)), .val (.ref b48), .val (.ref b61), .val (.ref b80), .val (.int (1 : Int32))] (hb hby at_217) rfl rfl ?_
            refine own_aload X83 hx (hb hby at_219) rfl rfl rfl ?_
            refine own_virtual X83 hx hZ (y := (⟨"com/example/ledgerleaf/ledgerleaf/Element", "holdsText", "()Z"⟩ : MethodName)) (z := (⟨"com/example/ledgerleaf/ledgerleaf/Element", "holdsText", "()Z"⟩ : MethodName)) hown (hw _ (List.mem_of_getElem? (i := 89) rfl)) (hw _ (List.mem_of_getElem? (i := 90) rfl)) (notFace_of_selects (args := #[]) (mvT hZ (hw _ (List.mem_of_getElem? (i := 92) rfl)))) (hw _ (List.mem_of_getElem? (i := 92) rfl)) (hw _ (List.mem_of_getElem? (i := 91) rfl)) (hw _ (List.mem_of_getElem? (i := 73) rfl)) (hw _ (List.mem_of_getElem? (i := 93) rfl)) (by decide) rfl (by decide) (W := 0) (by decide) (by decide) (by decide) [] [] (by rw [hml]; rfl) Ee83 (own_holdR l Z a0 hw b80 b15 T83.heap n0 Ft83) own_pd12 rfl rfl rfl (hb hby at_221) rfl ?_
            intro v85 T85 L85 X85 hQ85
            obtain ⟨rfl, Nq85, hh85⟩ := hQ85
            have N85 := Fr.app N83 Nq85
            show own_Ends p e below _ (T85.setTop (mkF m 224 #[.val (.int p1), .val (.int p2), .val (.int p3), .val (.int p4), .val (.int p5), .val (.ref b1), .val (.ref b9), .val (.ref b15), .val (.ref b22), .val (.ref b29), .val (.ref a42), .val (.int (p1 &&& (3 : Int32))), .val (.ref b15), .val (.int (0 : Int32)), .val (.ref b48), .val (.ref b61), .val (.ref b80), .val (.int (1 : Int32))] [(.int (1 : Int32))]))
            refine own_iload X85 hx (hb hby at_224) rfl rfl ?_
            refine own_icmpT X85 hx (hb hby at_226) (by decide) rfl (by decide) ?_
            refine own_aload X85 hx (hb hby at_231) rfl rfl rfl ?_
            refine own_ifnullF X85 hx (hb hby at_233) rfl ?_
            refine own_aload X85 hx (hb hby at_236) rfl rfl rfl ?_
            have f86 := (((Ft71.keep Kq78 (ninS (Ne.symm (Nat.ne_of_lt (Nat.lt_of_lt_of_le El52.lt (Nat.le_of_eq g61.symm)))) nin0)).ext E80).keep Kq83 (ninS (Nat.ne_of_lt (Nat.lt_of_lt_of_le (Ee71.keep Kq78).lt (Nat.le_of_eq g80.symm))) nin0))
            have f88 := (((Ee71.keep Kq78).ext E80).keep Kq83)
            refine own_virtual X85 hx hZ (y := (⟨"com/example/ledgerleaf/ledgerleaf/Element", "holdsText", "()Z"⟩ : MethodName)) (z := (⟨"com/example/ledgerleaf/ledgerleaf/Element", "holdsText", "()Z"⟩ : MethodName)) hown (hw _ (List.mem_of_getElem? (i := 89) rfl)) (hw _ (List.mem_of_getElem? (i := 90) rfl)) (notFace_of_selects (args := #[]) (mvT hZ (hw _ (List.mem_of_getElem? (i := 92) rfl)))) (hw _ (List.mem_of_getElem? (i := 92) rfl)) (hw _ (List.mem_of_getElem? (i := 91) rfl)) (hw _ (List.mem_of_getElem? (i := 73) rfl)) (hw _ (List.mem_of_getElem? (i := 93) rfl)) (by decide) hh85 (by decide) (W := 0) (by decide) (by decide) (by decide) [] [] (by rw [hml]; rfl) f88 (own_holdN l Z a0 hw b61 T83.heap n0 f86) own_pd12 rfl rfl rfl (hb hby at_238) rfl ?_
            intro v87 T87 L87 X87 hQ87
            obtain ⟨rfl, Nq87, hh87⟩ := hQ87
            have N87 := Fr.app N85 Nq87
            show own_Ends p e below _ (T87.setTop (mkF m 241 #[.val (.int p1), .val (.int p2), .val (.int p3), .val (.int p4), .val (.int p5), .val (.ref b1), .val (.ref b9), .val (.ref b15), .val (.ref b22), .val (.ref b29), .val (.ref a42), .val (.int (p1 &&& (3 : Int32))), .val (.ref b15), .val (.int (0 : Int32)), .val (.ref b48), .val (.ref b61), .val (.ref b80), .val (.int (1 : Int32))] [(.int (0 : Int32))]))
            refine own_iload X87 hx (hb hby at_241) rfl rfl ?_
            refine own_icmpT X87 hx (hb hby at_243) (by decide) rfl (by decide) ?_
            refine own_iconst X87 hx (1 : Int32) (hb hby at_248) (by decide) rfl ?_
            exact own_retNH X87 hx hZ hh87 HH84 hEL hlocks hret (by simp) (hb hby at_249) (by decide) (by decide) (by decide) ⟨rfl, N87⟩
        · refine own_iconst X42 hx (1 : Int32) (hb hby at_129) (by decide) rfl ?_
          refine own_goto X42 hx (hb hby at_130) (by decide) rfl ?_
          refine own_istore X42 hx #[.val (.int p1), .val (.int p2), .val (.int p3), .val (.int p4), .val (.int p5), .val (.ref b1), .val (.ref b9), .val (.ref b15), .val (.ref b22), .val (.ref b29), .val (.ref a42), .val (.int (p1 &&& (3 : Int32))), .val (.ref b15), .val (.int (1 : Int32)), .unset, .unset, .unset, .unset] (hb hby at_134) rfl rfl ?_
          refine own_new X42 hx hZ hown (hw _ (List.mem_of_getElem? (i := 47) rfl)) (hw _ (List.mem_of_getElem? (i := 48) rfl)) (hw _ (List.mem_of_getElem? (i := 49) rfl)) rfl (hb hby at_136) (by decide) (by decide) rfl ?_
          intro T89 h89 b89 X89 e89 g89 E89 A89 D89
          have f90 := (f41.keep Kq42 all0)
          have g_b89 : n0 ≤ b89 := Nat.le_trans (own_oz f90) (Nat.le_of_eq g89.symm)
          have HH91 := HH43.ext E89
          have Fb89_modCount : Fld Z h89 b89 "java/util/AbstractList" "modCount" "I" (.int (0 : Int32)) := D89 (Or.inl (hw _ (List.mem_of_getElem? (i := 67) rfl))) (ty := .int) (by decide)
          have Fb89_elementData : Fld Z h89 b89 "java/util/ArrayList" "elementData" "[Ljava/lang/Object;" .null := D89 (Or.inl (hw _ (List.mem_of_getElem? (i := 70) rfl))) (ty := (.array (.object "java/lang/Object"))) (by decide)
          have Fb89_size : Fld Z h89 b89 "java/util/ArrayList" "size" "I" (.int (0 : Int32)) := D89 (Or.inl (hw _ (List.mem_of_getElem? (i := 102) rfl))) (ty := .int) (by decide)
          refine own_dup X89 hx (hb hby at_139) rfl rfl ?_
          have f92 := (f90.ext E89)
          refine own_special X89 hx hZ (y := (⟨"java/util/ArrayList", "<init>", "()V"⟩ : MethodName)) rfl hown (hw _ (List.mem_of_getElem? (i := 50) rfl)) (hw _ (List.mem_of_getElem? (i := 51) rfl)) (hw _ (List.mem_of_getElem? (i := 49) rfl)) (hw _ (List.mem_of_getElem? (i := 52) rfl)) (by decide) e89 (by decide) (W := 1) (by decide) (by decide) (by decide) [] [(.ref b89)] (by rw [hml]; rfl) (a := b89) (own_ali l Z a0 hw b89 de kd h89 n0 f92 g_b89 SD VD A89 D89) own_pd4 rfl rfl rfl (hb hby at_140) rfl ?_
          intro v93 T93 L93 X93 hQ93
          obtain ⟨rfl, Nq93, Kq93, Al93⟩ := hQ93
          have N93 := Fr.app N42 Nq93
          have HH94 := HH91.keep Kq93 (sfS (Safe.exa hZ.alike A89 (by decide) (by decide)) sf0)
          obtain ⟨El93, Ml93, Dl93, Sl93⟩ := Al93
          show own_Ends p e below _ (T93.setTop (mkF m 143 #[.val (.int p1), .val (.int p2), .val (.int p3), .val (.int p4), .val (.int p5), .val (.ref b1), .val (.ref b9), .val (.ref b15), .val (.ref b22), .val (.ref b29), .val (.ref a42), .val (.int (p1 &&& (3 : Int32))), .val (.ref b15), .val (.int (1 : Int32)), .unset, .unset, .unset, .unset] [(.ref b89)]))
          refine own_astore X93 hx #[.val (.int p1), .val (.int p2), .val (.int p3), .val (.int p4), .val (.int p5), .val (.ref b1), .val (.ref b9), .val (.ref b15), .val (.ref b22), .val (.ref b29), .val (.ref a42), .val (.int (p1 &&& (3 : Int32))), .val (.ref b15), .val (.int (1 : Int32)), .val (.ref b89), .unset, .unset, .unset] (hb hby at_143) rfl rfl rfl ?_
          refine own_aconst_null X93 hx (hb hby at_145) rfl ?_
          refine own_astore X93 hx #[.val (.int p1), .val (.int p2), .val (.int p3), .val (.int p4), .val (.int p5), .val (.ref b1), .val (.ref b9), .val (.ref b15), .val (.ref b22), .val (.ref b29), .val (.ref a42), .val (.int (p1 &&& (3 : Int32))), .val (.ref b15), .val (.int (1 : Int32)), .val (.ref b89), .val .null, .unset, .unset] (hb hby at_146) rfl rfl rfl ?_
          refine own_iload X93 hx (hb hby at_148) rfl rfl ?_
          refine own_iconst X93 hx (1 : Int32) (hb hby at_150) (by decide) rfl ?_
          refine own_iand X93 hx (hb hby at_151) rfl ?_
          refine own_if_eq X93 hx (hb hby at_152) (by decide) rfl rfl (fun hc152_95 => ?_) (fun hc152_95 => ?_)
          · refine own_new X93 hx hZ hown (hw _ (List.mem_of_getElem? (i := 71) rfl)) (hw _ (List.mem_of_getElem? (i := 72) rfl)) (hw _ (List.mem_of_getElem? (i := 73) rfl)) rfl (hb hby at_192) (by decide) (by decide) rfl ?_
            intro T96 h96 b96 X96 e96 g96 E96 A96 D96
            have f97 := (f92.keep Kq93 (allS g_b89 all0))
            have g_b96 : n0 ≤ b96 := Nat.le_trans (own_oz f97) (Nat.le_of_eq g96.symm)
            have HH98 := HH94.ext E96
            have Fb96_name : Fld Z h96 b96 "com/example/ledgerleaf/ledgerleaf/Element" "name" "Ljava/lang/String;" .null := D96 (Or.inr (hw _ (List.mem_of_getElem? (i := 84) rfl))) (ty := (.object "java/lang/String")) (by decide)
            have Fb96_text : Fld Z h96 b96 "com/example/ledgerleaf/ledgerleaf/Element" "text" "Ljava/lang/String;" .null := D96 (Or.inr (hw _ (List.mem_of_getElem? (i := 86) rfl))) (ty := (.object "java/lang/String")) (by decide)
            have Fb96_children : Fld Z h96 b96 "com/example/ledgerleaf/ledgerleaf/Element" "children" "Ljava/util/List;" .null := D96 (Or.inr (hw _ (List.mem_of_getElem? (i := 88) rfl))) (ty := (.object "java/util/List")) (by decide)
            refine own_dup X96 hx (hb hby at_195) rfl rfl ?_
            refine own_aload X96 hx (hb hby at_196) rfl rfl rfl ?_
            refine own_aload X96 hx (hb hby at_198) rfl rfl rfl ?_
            refine own_aload X96 hx (hb hby at_200) rfl rfl rfl ?_
            refine own_special X96 hx hZ (y := (⟨"com/example/ledgerleaf/ledgerleaf/Element", "<init>", "(Ljava/lang/String;Ljava/lang/String;Ljava/util/List;)V"⟩ : MethodName)) rfl hown (hw _ (List.mem_of_getElem? (i := 74) rfl)) (hw _ (List.mem_of_getElem? (i := 75) rfl)) (hw _ (List.mem_of_getElem? (i := 73) rfl)) (hw _ (List.mem_of_getElem? (i := 76) rfl)) (by decide) e96 (by decide) (W := 1) (by decide) (by decide) (by decide) [(.ref a42), (.ref b15), (.ref b89)] [(.ref b96)] (by rw [hml]; rfl) (a := b96) (own_elR l Z a0 hw b96 a42 b15 b89 h96 n0 g_b96 A96 D96) own_pd11 rfl rfl rfl (hb hby at_202) rfl ?_
            intro v99 T99 L99 X99 hQ99
            obtain ⟨rfl, Nq99, Kq99, Ee99, Ft99⟩ := hQ99
            have N99 := Fr.app N93 Nq99
            have HH100 := HH98.keep Kq99 (sfS (Safe.exa hZ.alike A96 (by decide) (by decide)) sf0)
            show own_Ends p e below _ (T99.setTop (mkF m 205 #[.val (.int p1), .val (.int p2), .val (.int p3), .val (.int p4), .val (.int p5), .val (.ref b1), .val (.ref b9), .val (.ref b15), .val (.ref b22), .val (.ref b29), .val (.ref a42), .val (.int (p1 &&& (3 : Int32))), .val (.ref b15), .val (.int (1 : Int32)), .val (.ref b89), .val .null, .unset, .unset] [(.ref b96)]))
            refine own_astore X99 hx #[.val (.int p1), .val (.int p2), .val (.int p3), .val (.int p4), .val (.int p5), .val (.ref b1), .val (.ref b9), .val (.ref b15), .val (.ref b22), .val (.ref b29), .val (.ref a42), .val (.int (p1 &&& (3 : Int32))), .val (.ref b15), .val (.int (1 : Int32)), .val (.ref b89), .val .null, .val (.ref b96), .unset] (hb hby at_205) rfl rfl rfl ?_
            refine own_iload X99 hx (hb hby at_207) rfl rfl ?_
            refine own_ifF X99 hx (hb hby at_209) rfl (feq hc89_44).1 ?_
            refine own_iconst X99 hx (1 : Int32) (hb hby at_212) (by decide) rfl ?_
            refine own_goto X99 hx (hb hby at_213) (by decide) rfl ?_
            refine own_istore X99 hx #[.val (.int p1), .val (.int p2), .val (.int p3), .val (.int p4), .val (.int p5), .val (.ref b1), .val (.ref b9), .val (.ref b15), .val (.ref b22), .val (.ref b29), .val (.ref a42), .val (.int (p1 &&& (3 : Int32))), .val (.ref b15), .val (.int (1 : Int32)), .val (.ref b89), .val .null, .val (.ref b96), .val (.int (1 : Int32))] (hb hby at_217) rfl rfl ?_
            refine own_aload X99 hx (hb hby at_219) rfl rfl rfl ?_
            refine own_virtual X99 hx hZ (y := (⟨"com/example/ledgerleaf/ledgerleaf/Element", "holdsText", "()Z"⟩ : MethodName)) (z := (⟨"com/example/ledgerleaf/ledgerleaf/Element", "holdsText", "()Z"⟩ : MethodName)) hown (hw _ (List.mem_of_getElem? (i := 89) rfl)) (hw _ (List.mem_of_getElem? (i := 90) rfl)) (notFace_of_selects (args := #[]) (mvT hZ (hw _ (List.mem_of_getElem? (i := 92) rfl)))) (hw _ (List.mem_of_getElem? (i := 92) rfl)) (hw _ (List.mem_of_getElem? (i := 91) rfl)) (hw _ (List.mem_of_getElem? (i := 73) rfl)) (hw _ (List.mem_of_getElem? (i := 93) rfl)) (by decide) rfl (by decide) (W := 0) (by decide) (by decide) (by decide) [] [] (by rw [hml]; rfl) Ee99 (own_holdR l Z a0 hw b96 b15 T99.heap n0 Ft99) own_pd12 rfl rfl rfl (hb hby at_221) rfl ?_
            intro v101 T101 L101 X101 hQ101
            obtain ⟨rfl, Nq101, hh101⟩ := hQ101
            have N101 := Fr.app N99 Nq101
            show own_Ends p e below _ (T101.setTop (mkF m 224 #[.val (.int p1), .val (.int p2), .val (.int p3), .val (.int p4), .val (.int p5), .val (.ref b1), .val (.ref b9), .val (.ref b15), .val (.ref b22), .val (.ref b29), .val (.ref a42), .val (.int (p1 &&& (3 : Int32))), .val (.ref b15), .val (.int (1 : Int32)), .val (.ref b89), .val .null, .val (.ref b96), .val (.int (1 : Int32))] [(.int (1 : Int32))]))
            refine own_iload X101 hx (hb hby at_224) rfl rfl ?_
            refine own_icmpT X101 hx (hb hby at_226) (by decide) rfl (by decide) ?_
            refine own_aload X101 hx (hb hby at_231) rfl rfl rfl ?_
            refine own_ifnullT X101 hx (hb hby at_233) (by decide) rfl ?_
            refine own_iconst X101 hx (1 : Int32) (hb hby at_248) (by decide) rfl ?_
            exact own_retNH X101 hx hZ hh101 HH100 hEL hlocks hret (by simp) (hb hby at_249) (by decide) (by decide) (by decide) ⟨rfl, N101⟩
          · refine own_new X93 hx hZ hown (hw _ (List.mem_of_getElem? (i := 71) rfl)) (hw _ (List.mem_of_getElem? (i := 72) rfl)) (hw _ (List.mem_of_getElem? (i := 73) rfl)) rfl (hb hby at_155) (by decide) (by decide) rfl ?_
            intro T102 h102 b102 X102 e102 g102 E102 A102 D102
            have f103 := (f92.keep Kq93 (allS g_b89 all0))
            have g_b102 : n0 ≤ b102 := Nat.le_trans (own_oz f103) (Nat.le_of_eq g102.symm)
            have HH104 := HH94.ext E102
            have Fb102_name : Fld Z h102 b102 "com/example/ledgerleaf/ledgerleaf/Element" "name" "Ljava/lang/String;" .null := D102 (Or.inr (hw _ (List.mem_of_getElem? (i := 84) rfl))) (ty := (.object "java/lang/String")) (by decide)
            have Fb102_text : Fld Z h102 b102 "com/example/ledgerleaf/ledgerleaf/Element" "text" "Ljava/lang/String;" .null := D102 (Or.inr (hw _ (List.mem_of_getElem? (i := 86) rfl))) (ty := (.object "java/lang/String")) (by decide)
            have Fb102_children : Fld Z h102 b102 "com/example/ledgerleaf/ledgerleaf/Element" "children" "Ljava/util/List;" .null := D102 (Or.inr (hw _ (List.mem_of_getElem? (i := 88) rfl))) (ty := (.object "java/util/List")) (by decide)
            refine own_dup X102 hx (hb hby at_158) rfl rfl ?_
            refine own_aload X102 hx (hb hby at_159) rfl rfl rfl ?_
            refine own_iload X102 hx (hb hby at_161) rfl rfl ?_
            refine own_ifF X102 hx (hb hby at_163) rfl (by decide) ?_
            refine own_aload X102 hx (hb hby at_166) rfl rfl rfl ?_
            refine own_goto X102 hx (hb hby at_168) (by decide) rfl ?_
            refine own_new X102 hx hZ hown (hw _ (List.mem_of_getElem? (i := 47) rfl)) (hw _ (List.mem_of_getElem? (i := 48) rfl)) (hw _ (List.mem_of_getElem? (i := 49) rfl)) e102 (hb hby at_172) (by decide) (by decide) rfl ?_
            intro T105 h105 b105 X105 e105 g105 E105 A105 D105
            have f106 := (f103.ext E102)
            have g_b105 : n0 ≤ b105 := Nat.le_trans (own_oz f106) (Nat.le_of_eq g105.symm)
            have HH107 := HH104.ext E105
            have Fb105_modCount : Fld Z h105 b105 "java/util/AbstractList" "modCount" "I" (.int (0 : Int32)) := D105 (Or.inl (hw _ (List.mem_of_getElem? (i := 67) rfl))) (ty := .int) (by decide)
            have Fb105_elementData : Fld Z h105 b105 "java/util/ArrayList" "elementData" "[Ljava/lang/Object;" .null := D105 (Or.inl (hw _ (List.mem_of_getElem? (i := 70) rfl))) (ty := (.array (.object "java/lang/Object"))) (by decide)
            have Fb105_size : Fld Z h105 b105 "java/util/ArrayList" "size" "I" (.int (0 : Int32)) := D105 (Or.inl (hw _ (List.mem_of_getElem? (i := 102) rfl))) (ty := .int) (by decide)
            refine own_dup X105 hx (hb hby at_175) rfl rfl ?_
            have f108 := (f106.ext E105)
            refine own_special X105 hx hZ (y := (⟨"java/util/ArrayList", "<init>", "()V"⟩ : MethodName)) rfl hown (hw _ (List.mem_of_getElem? (i := 50) rfl)) (hw _ (List.mem_of_getElem? (i := 51) rfl)) (hw _ (List.mem_of_getElem? (i := 49) rfl)) (hw _ (List.mem_of_getElem? (i := 52) rfl)) (by decide) e105 (by decide) (W := 5) (by decide) (by decide) (by decide) [] [(.ref b105), (.ref b22), (.ref a42), (.ref b102), (.ref b102)] (by rw [hml]; rfl) (a := b105) (own_ali l Z a0 hw b105 de kd h105 n0 f108 g_b105 SD VD A105 D105) own_pd4 rfl rfl rfl (hb hby at_176) rfl ?_
            intro v109 T109 L109 X109 hQ109
            obtain ⟨rfl, Nq109, Kq109, Al109⟩ := hQ109
            have N109 := Fr.app N93 Nq109
            have HH110 := HH107.keep Kq109 (sfS (Safe.exa hZ.alike A105 (by decide) (by decide)) sf0)
            obtain ⟨El109, Ml109, Dl109, Sl109⟩ := Al109
            show own_Ends p e below _ (T109.setTop (mkF m 179 #[.val (.int p1), .val (.int p2), .val (.int p3), .val (.int p4), .val (.int p5), .val (.ref b1), .val (.ref b9), .val (.ref b15), .val (.ref b22), .val (.ref b29), .val (.ref a42), .val (.int (p1 &&& (3 : Int32))), .val (.ref b15), .val (.int (1 : Int32)), .val (.ref b89), .val .null, .unset, .unset] [(.ref b105), (.ref b22), (.ref a42), (.ref b102), (.ref b102)]))
            have f111 := ((A102.ext E105).keep Kq109)
            refine own_special X109 hx hZ (y := (⟨"com/example/ledgerleaf/ledgerleaf/Element", "<init>", "(Ljava/lang/String;Ljava/lang/String;Ljava/util/List;)V"⟩ : MethodName)) rfl hown (hw _ (List.mem_of_getElem? (i := 74) rfl)) (hw _ (List.mem_of_getElem? (i := 75) rfl)) (hw _ (List.mem_of_getElem? (i := 73) rfl)) (hw _ (List.mem_of_getElem? (i := 76) rfl)) (by decide) rfl (by decide) (W := 1) (by decide) (by decide) (by decide) [(.ref a42), (.ref b22), (.ref b105)] [(.ref b102)] (by rw [hml]; rfl) (a := b102) (own_elR l Z a0 hw b102 a42 b22 b105 T109.heap n0 g_b102 f111 (fun L p => (((D102 L p).ext E105).keep Kq109 (ninS (Nat.ne_of_lt (Nat.lt_of_lt_of_le A102.lt (Nat.le_of_eq g105.symm))) nin0)))) own_pd11 rfl rfl rfl (hb hby at_179) rfl ?_
            intro v112 T112 L112 X112 hQ112
            obtain ⟨rfl, Nq112, Kq112, Ee112, Ft112⟩ := hQ112
            have N112 := Fr.app N109 Nq112
            have HH113 := HH110.keep Kq112 (sfS (Safe.exa hZ.alike f111 (by decide) (by decide)) sf0)
            show own_Ends p e below _ (T112.setTop (mkF m 182 #[.val (.int p1), .val (.int p2), .val (.int p3), .val (.int p4), .val (.int p5), .val (.ref b1), .val (.ref b9), .val (.ref b15), .val (.ref b22), .val (.ref b29), .val (.ref a42), .val (.int (p1 &&& (3 : Int32))), .val (.ref b15), .val (.int (1 : Int32)), .val (.ref b89), .val .null, .unset, .unset] [(.ref b102)]))
            refine own_astore X112 hx #[.val (.int p1), .val (.int p2), .val (.int p3), .val (.int p4), .val (.int p5), .val (.ref b1), .val (.ref b9), .val (.ref b15), .val (.ref b22), .val (.ref b29), .val (.ref a42), .val (.int (p1 &&& (3 : Int32))), .val (.ref b15), .val (.int (1 : Int32)), .val (.ref b89), .val (.ref b102), .unset, .unset] (hb hby at_182) rfl rfl rfl ?_
            refine own_aload X112 hx (hb hby at_184) rfl rfl rfl ?_
            refine own_aload X112 hx (hb hby at_186) rfl rfl rfl ?_
            have f114 := ((((El93.ext E102).ext E105).keep Kq109).keep Kq112)
            have f115 := ((f108.keep Kq109 (allS g_b105 all0)).keep Kq112 (allS g_b102 all0))
            have f116 := ((((Ml93.ext E102).ext E105).keep Kq109 (ninS (Nat.ne_of_lt (Nat.lt_of_lt_of_le (El93.ext E102).lt (Nat.le_of_eq g105.symm))) nin0)).keep Kq112 (ninS (Nat.ne_of_lt (Nat.lt_of_lt_of_le El93.lt (Nat.le_of_eq g102.symm))) nin0))
            have f117 := ((((Dl93.ext E102).ext E105).keep Kq109 (ninS (Nat.ne_of_lt (Nat.lt_of_lt_of_le (El93.ext E102).lt (Nat.le_of_eq g105.symm))) nin0)).keep Kq112 (ninS (Nat.ne_of_lt (Nat.lt_of_lt_of_le El93.lt (Nat.le_of_eq g102.symm))) nin0))
            have f118 := ((((Sl93.ext E102).ext E105).keep Kq109 (ninS (Nat.ne_of_lt (Nat.lt_of_lt_of_le (El93.ext E102).lt (Nat.le_of_eq g105.symm))) nin0)).keep Kq112 (ninS (Nat.ne_of_lt (Nat.lt_of_lt_of_le El93.lt (Nat.le_of_eq g102.symm))) nin0))
            refine own_virtual X112 hx hZ (y := (⟨"java/util/ArrayList", "add", "(Ljava/lang/Object;)Z"⟩ : MethodName)) (z := (⟨"java/util/ArrayList", "add", "(Ljava/lang/Object;)Z"⟩ : MethodName)) hown (hw _ (List.mem_of_getElem? (i := 94) rfl)) (hw _ (List.mem_of_getElem? (i := 95) rfl)) (notFace_of_selects (args := #[]) (mvT hZ (hw _ (List.mem_of_getElem? (i := 97) rfl)))) (hw _ (List.mem_of_getElem? (i := 97) rfl)) (hw _ (List.mem_of_getElem? (i := 96) rfl)) (hw _ (List.mem_of_getElem? (i := 49) rfl)) (hw _ (List.mem_of_getElem? (i := 98) rfl)) (by decide) rfl (by decide) (W := 0) (by decide) (by decide) (by decide) [(.ref b102)] [] (by rw [hml]; rfl) f114 (own_addE l Z a0 hw b89 b102 de kd (0 : Int32) T112.heap n0 f115 g_b89 SD VD ⟨f114, f116, f117, f118⟩ (Ins.of_exa Ee112 (hw _ (List.mem_of_getElem? (i := 124) rfl)))) own_pd13 rfl rfl rfl (hb hby at_188) rfl ?_
            intro v119 T119 L119 X119 hQ119
            obtain ⟨rfl, Nq119, Kq119, b119, k119, g_b119, sz_b119, Al119, V119, Ov119⟩ := hQ119
            have N119 := Fr.app N112 Nq119
            have HH120 := HH113.keep Kq119 (sfS (Safe.exa hZ.alike f114 (by decide) (by decide)) sf0)
            obtain ⟨El119, Ml119, Dl119, Sl119⟩ := Al119
            show own_Ends p e below _ (T119.setTop (mkF m 191 #[.val (.int p1), .val (.int p2), .val (.int p3), .val (.int p4), .val (.int p5), .val (.ref b1), .val (.ref b9), .val (.ref b15), .val (.ref b22), .val (.ref b29), .val (.ref a42), .val (.int (p1 &&& (3 : Int32))), .val (.ref b15), .val (.int (1 : Int32)), .val (.ref b89), .val (.ref b102), .unset, .unset] [(.int (1 : Int32))]))
            refine own_pop X119 hx (hb hby at_191) rfl rfl ?_
            refine own_new X119 hx hZ hown (hw _ (List.mem_of_getElem? (i := 71) rfl)) (hw _ (List.mem_of_getElem? (i := 72) rfl)) (hw _ (List.mem_of_getElem? (i := 73) rfl)) rfl (hb hby at_192) (by decide) (by decide) rfl ?_
            intro T121 h121 b121 X121 e121 g121 E121 A121 D121
            have f122 := (f115.keep Kq119 (allS g_b89 all0))
            have g_b121 : n0 ≤ b121 := Nat.le_trans (own_oz f122) (Nat.le_of_eq g121.symm)
            have HH123 := HH120.ext E121
            have Fb121_name : Fld Z h121 b121 "com/example/ledgerleaf/ledgerleaf/Element" "name" "Ljava/lang/String;" .null := D121 (Or.inr (hw _ (List.mem_of_getElem? (i := 84) rfl))) (ty := (.object "java/lang/String")) (by decide)
            have Fb121_text : Fld Z h121 b121 "com/example/ledgerleaf/ledgerleaf/Element" "text" "Ljava/lang/String;" .null := D121 (Or.inr (hw _ (List.mem_of_getElem? (i := 86) rfl))) (ty := (.object "java/lang/String")) (by decide)
            have Fb121_children : Fld Z h121 b121 "com/example/ledgerleaf/ledgerleaf/Element" "children" "Ljava/util/List;" .null := D121 (Or.inr (hw _ (List.mem_of_getElem? (i := 88) rfl))) (ty := (.object "java/util/List")) (by decide)
            refine own_dup X121 hx (hb hby at_195) rfl rfl ?_
            refine own_aload X121 hx (hb hby at_196) rfl rfl rfl ?_
            refine own_aload X121 hx (hb hby at_198) rfl rfl rfl ?_
            refine own_aload X121 hx (hb hby at_200) rfl rfl rfl ?_
            refine own_special X121 hx hZ (y := (⟨"com/example/ledgerleaf/ledgerleaf/Element", "<init>", "(Ljava/lang/String;Ljava/lang/String;Ljava/util/List;)V"⟩ : MethodName)) rfl hown (hw _ (List.mem_of_getElem? (i := 74) rfl)) (hw _ (List.mem_of_getElem? (i := 75) rfl)) (hw _ (List.mem_of_getElem? (i := 73) rfl)) (hw _ (List.mem_of_getElem? (i := 76) rfl)) (by decide) e121 (by decide) (W := 1) (by decide) (by decide) (by decide) [(.ref a42), (.ref b15), (.ref b89)] [(.ref b121)] (by rw [hml]; rfl) (a := b121) (own_elR l Z a0 hw b121 a42 b15 b89 h121 n0 g_b121 A121 D121) own_pd11 rfl rfl rfl (hb hby at_202) rfl ?_
            intro v124 T124 L124 X124 hQ124
            obtain ⟨rfl, Nq124, Kq124, Ee124, Ft124⟩ := hQ124
            have N124 := Fr.app N119 Nq124
            have HH125 := HH123.keep Kq124 (sfS (Safe.exa hZ.alike A121 (by decide) (by decide)) sf0)
            show own_Ends p e below _ (T124.setTop (mkF m 205 #[.val (.int p1), .val (.int p2), .val (.int p3), .val (.int p4), .val (.int p5), .val (.ref b1), .val (.ref b9), .val (.ref b15), .val (.ref b22), .val (.ref b29), .val (.ref a42), .val (.int (p1 &&& (3 : Int32))), .val (.ref b15), .val (.int (1 : Int32)), .val (.ref b89), .val (.ref b102), .unset, .unset] [(.ref b121)]))
            refine own_astore X124 hx #[.val (.int p1), .val (.int p2), .val (.int p3), .val (.int p4), .val (.int p5), .val (.ref b1), .val (.ref b9), .val (.ref b15), .val (.ref b22), .val (.ref b29), .val (.ref a42), .val (.int (p1 &&& (3 : Int32))), .val (.ref b15), .val (.int (1 : Int32)), .val (.ref b89), .val (.ref b102), .val (.ref b121), .unset] (hb hby at_205) rfl rfl rfl ?_
            refine own_iload X124 hx (hb hby at_207) rfl rfl ?_
            refine own_ifF X124 hx (hb hby at_209) rfl (feq hc89_44).1 ?_
            refine own_iconst X124 hx (1 : Int32) (hb hby at_212) (by decide) rfl ?_
            refine own_goto X124 hx (hb hby at_213) (by decide) rfl ?_
            refine own_istore X124 hx #[.val (.int p1), .val (.int p2), .val (.int p3), .val (.int p4), .val (.int p5), .val (.ref b1), .val (.ref b9), .val (.ref b15), .val (.ref b22), .val (.ref b29), .val (.ref a42), .val (.int (p1 &&& (3 : Int32))), .val (.ref b15), .val (.int (1 : Int32)), .val (.ref b89), .val (.ref b102), .val (.ref b121), .val (.int (1 : Int32))] (hb hby at_217) rfl rfl ?_
            refine own_aload X124 hx (hb hby at_219) rfl rfl rfl ?_
            refine own_virtual X124 hx hZ (y := (⟨"com/example/ledgerleaf/ledgerleaf/Element", "holdsText", "()Z"⟩ : MethodName)) (z := (⟨"com/example/ledgerleaf/ledgerleaf/Element", "holdsText", "()Z"⟩ : MethodName)) hown (hw _ (List.mem_of_getElem? (i := 89) rfl)) (hw _ (List.mem_of_getElem? (i := 90) rfl)) (notFace_of_selects (args := #[]) (mvT hZ (hw _ (List.mem_of_getElem? (i := 92) rfl)))) (hw _ (List.mem_of_getElem? (i := 92) rfl)) (hw _ (List.mem_of_getElem? (i := 91) rfl)) (hw _ (List.mem_of_getElem? (i := 73) rfl)) (hw _ (List.mem_of_getElem? (i := 93) rfl)) (by decide) rfl (by decide) (W := 0) (by decide) (by decide) (by decide) [] [] (by rw [hml]; rfl) Ee124 (own_holdR l Z a0 hw b121 b15 T124.heap n0 Ft124) own_pd12 rfl rfl rfl (hb hby at_221) rfl ?_
            intro v126 T126 L126 X126 hQ126
            obtain ⟨rfl, Nq126, hh126⟩ := hQ126
            have N126 := Fr.app N124 Nq126
            show own_Ends p e below _ (T126.setTop (mkF m 224 #[.val (.int p1), .val (.int p2), .val (.int p3), .val (.int p4), .val (.int p5), .val (.ref b1), .val (.ref b9), .val (.ref b15), .val (.ref b22), .val (.ref b29), .val (.ref a42), .val (.int (p1 &&& (3 : Int32))), .val (.ref b15), .val (.int (1 : Int32)), .val (.ref b89), .val (.ref b102), .val (.ref b121), .val (.int (1 : Int32))] [(.int (1 : Int32))]))
            refine own_iload X126 hx (hb hby at_224) rfl rfl ?_
            refine own_icmpT X126 hx (hb hby at_226) (by decide) rfl (by decide) ?_
            refine own_aload X126 hx (hb hby at_231) rfl rfl rfl ?_
            refine own_ifnullF X126 hx (hb hby at_233) rfl ?_
            refine own_aload X126 hx (hb hby at_236) rfl rfl rfl ?_
            have f127 := (((Ft112.keep Kq119 (ninS (Ne.symm (Nat.ne_of_lt (Nat.lt_of_lt_of_le El93.lt (Nat.le_of_eq g102.symm)))) nin0)).ext E121).keep Kq124 (ninS (Nat.ne_of_lt (Nat.lt_of_lt_of_le (Ee112.keep Kq119).lt (Nat.le_of_eq g121.symm))) nin0))
            have f129 := (((Ee112.keep Kq119).ext E121).keep Kq124)
            refine own_virtual X126 hx hZ (y := (⟨"com/example/ledgerleaf/ledgerleaf/Element", "holdsText", "()Z"⟩ : MethodName)) (z := (⟨"com/example/ledgerleaf/ledgerleaf/Element", "holdsText", "()Z"⟩ : MethodName)) hown (hw _ (List.mem_of_getElem? (i := 89) rfl)) (hw _ (List.mem_of_getElem? (i := 90) rfl)) (notFace_of_selects (args := #[]) (mvT hZ (hw _ (List.mem_of_getElem? (i := 92) rfl)))) (hw _ (List.mem_of_getElem? (i := 92) rfl)) (hw _ (List.mem_of_getElem? (i := 91) rfl)) (hw _ (List.mem_of_getElem? (i := 73) rfl)) (hw _ (List.mem_of_getElem? (i := 93) rfl)) (by decide) hh126 (by decide) (W := 0) (by decide) (by decide) (by decide) [] [] (by rw [hml]; rfl) f129 (own_holdR l Z a0 hw b102 b22 T124.heap n0 f127) own_pd12 rfl rfl rfl (hb hby at_238) rfl ?_
            intro v128 T128 L128 X128 hQ128
            obtain ⟨rfl, Nq128, hh128⟩ := hQ128
            have N128 := Fr.app N126 Nq128
            show own_Ends p e below _ (T128.setTop (mkF m 241 #[.val (.int p1), .val (.int p2), .val (.int p3), .val (.int p4), .val (.int p5), .val (.ref b1), .val (.ref b9), .val (.ref b15), .val (.ref b22), .val (.ref b29), .val (.ref a42), .val (.int (p1 &&& (3 : Int32))), .val (.ref b15), .val (.int (1 : Int32)), .val (.ref b89), .val (.ref b102), .val (.ref b121), .val (.int (1 : Int32))] [(.int (1 : Int32))]))
            refine own_iload X128 hx (hb hby at_241) rfl rfl ?_
            refine own_icmpT X128 hx (hb hby at_243) (by decide) rfl (by decide) ?_
            refine own_iconst X128 hx (1 : Int32) (hb hby at_248) (by decide) rfl ?_
            exact own_retNH X128 hx hZ hh128 HH125 hEL hlocks hret (by simp) (hb hby at_249) (by decide) (by decide) (by decide) ⟨rfl, N128⟩
      · refine own_aload X42 hx (hb hby at_113) rfl rfl rfl ?_
        refine own_goto X42 hx (hb hby at_115) (by decide) rfl ?_
        refine own_astore X42 hx #[.val (.int p1), .val (.int p2), .val (.int p3), .val (.int p4), .val (.int p5), .val (.ref b1), .val (.ref b9), .val (.ref b15), .val (.ref b22), .val (.ref b29), .val (.ref a42), .val (.int (p1 &&& (3 : Int32))), .val (.ref b22), .unset, .unset, .unset, .unset, .unset] (hb hby at_120) rfl rfl rfl ?_
        refine own_iload X42 hx (hb hby at_122) rfl rfl ?_
        refine own_iconst X42 hx (2 : Int32) (hb hby at_124) (by decide) rfl ?_
        refine own_iand X42 hx (hb hby at_125) rfl ?_
        refine own_if_ne X42 hx (hb hby at_126) (by decide) rfl rfl (fun hc126_130 => ?_) (fun hc126_130 => ?_)
        · refine own_iconst X42 hx (0 : Int32) (hb hby at_133) (by decide) rfl ?_
          refine own_istore X42 hx #[.val (.int p1), .val (.int p2), .val (.int p3), .val (.int p4), .val (.int p5), .val (.ref b1), .val (.ref b9), .val (.ref b15), .val (.ref b22), .val (.ref b29), .val (.ref a42), .val (.int (p1 &&& (3 : Int32))), .val (.ref b22), .val (.int (0 : Int32)), .unset, .unset, .unset, .unset] (hb hby at_134) rfl rfl ?_
          refine own_new X42 hx hZ hown (hw _ (List.mem_of_getElem? (i := 47) rfl)) (hw _ (List.mem_of_getElem? (i := 48) rfl)) (hw _ (List.mem_of_getElem? (i := 49) rfl)) rfl (hb hby at_136) (by decide) (by decide) rfl ?_
          intro T131 h131 b131 X131 e131 g131 E131 A131 D131
          have f132 := (f41.keep Kq42 all0)
          have g_b131 : n0 ≤ b131 := Nat.le_trans (own_oz f132) (Nat.le_of_eq g131.symm)
          have HH133 := HH43.ext E131
          have Fb131_modCount : Fld Z h131 b131 "java/util/AbstractList" "modCount" "I" (.int (0 : Int32)) := D131 (Or.inl (hw _ (List.mem_of_getElem? (i := 67) rfl))) (ty := .int) (by decide)
          have Fb131_elementData : Fld Z h131 b131 "java/util/ArrayList" "elementData" "[Ljava/lang/Object;" .null := D131 (Or.inl (hw _ (List.mem_of_getElem? (i := 70) rfl))) (ty := (.array (.object "java/lang/Object"))) (by decide)
          have Fb131_size : Fld Z h131 b131 "java/util/ArrayList" "size" "I" (.int (0 : Int32)) := D131 (Or.inl (hw _ (List.mem_of_getElem? (i := 102) rfl))) (ty := .int) (by decide)
          refine own_dup X131 hx (hb hby at_139) rfl rfl ?_
          have f134 := (f132.ext E131)
          refine own_special X131 hx hZ (y := (⟨"java/util/ArrayList", "<init>", "()V"⟩ : MethodName)) rfl hown (hw _ (List.mem_of_getElem? (i := 50) rfl)) (hw _ (List.mem_of_getElem? (i := 51) rfl)) (hw _ (List.mem_of_getElem? (i := 49) rfl)) (hw _ (List.mem_of_getElem? (i := 52) rfl)) (by decide) e131 (by decide) (W := 1) (by decide) (by decide) (by decide) [] [(.ref b131)] (by rw [hml]; rfl) (a := b131) (own_ali l Z a0 hw b131 de kd h131 n0 f134 g_b131 SD VD A131 D131) own_pd4 rfl rfl rfl (hb hby at_140) rfl ?_
          intro v135 T135 L135 X135 hQ135
          obtain ⟨rfl, Nq135, Kq135, Al135⟩ := hQ135
          have N135 := Fr.app N42 Nq135
          have HH136 := HH133.keep Kq135 (sfS (Safe.exa hZ.alike A131 (by decide) (by decide)) sf0)
          obtain ⟨El135, Ml135, Dl135, Sl135⟩ := Al135
          show own_Ends p e below _ (T135.setTop (mkF m 143 #[.val (.int p1), .val (.int p2), .val (.int p3), .val (.int p4), .val (.int p5), .val (.ref b1), .val (.ref b9), .val (.ref b15), .val (.ref b22), .val (.ref b29), .val (.ref a42), .val (.int (p1 &&& (3 : Int32))), .val (.ref b22), .val (.int (0 : Int32)), .unset, .unset, .unset, .unset] [(.ref b131)]))
          refine own_astore X135 hx #[.val (.int p1), .val (.int p2), .val (.int p3), .val (.int p4), .val (.int p5), .val (.ref b1), .val (.ref b9), .val (.ref b15), .val (.ref b22), .val (.ref b29), .val (.ref a42), .val (.int (p1 &&& (3 : Int32))), .val (.ref b22), .val (.int (0 : Int32)), .val (.ref b131), .unset, .unset, .unset] (hb hby at_143) rfl rfl rfl ?_
          refine own_aconst_null X135 hx (hb hby at_145) rfl ?_
          refine own_astore X135 hx #[.val (.int p1), .val (.int p2), .val (.int p3), .val (.int p4), .val (.int p5), .val (.ref b1), .val (.ref b9), .val (.ref b15), .val (.ref b22), .val (.ref b29), .val (.ref a42), .val (.int (p1 &&& (3 : Int32))), .val (.ref b22), .val (.int (0 : Int32)), .val (.ref b131), .val .null, .unset, .unset] (hb hby at_146) rfl rfl rfl ?_
          refine own_iload X135 hx (hb hby at_148) rfl rfl ?_
          refine own_iconst X135 hx (1 : Int32) (hb hby at_150) (by decide) rfl ?_
          refine own_iand X135 hx (hb hby at_151) rfl ?_
          refine own_if_eq X135 hx (hb hby at_152) (by decide) rfl rfl (fun hc152_137 => ?_) (fun hc152_137 => ?_)
          · refine own_new X135 hx hZ hown (hw _ (List.mem_of_getElem? (i := 71) rfl)) (hw _ (List.mem_of_getElem? (i := 72) rfl)) (hw _ (List.mem_of_getElem? (i := 73) rfl)) rfl (hb hby at_192) (by decide) (by decide) rfl ?_
            intro T138 h138 b138 X138 e138 g138 E138 A138 D138
            have f139 := (f134.keep Kq135 (allS g_b131 all0))
            have g_b138 : n0 ≤ b138 := Nat.le_trans (own_oz f139) (Nat.le_of_eq g138.symm)
            have HH140 := HH136.ext E138
            have Fb138_name : Fld Z h138 b138 "com/example/ledgerleaf/ledgerleaf/Element" "name" "Ljava/lang/String;" .null := D138 (Or.inr (hw _ (List.mem_of_getElem? (i := 84) rfl))) (ty := (.object "java/lang/String")) (by decide)
            have Fb138_text : Fld Z h138 b138 "com/example/ledgerleaf/ledgerleaf/Element" "text" "Ljava/lang/String;" .null := D138 (Or.inr (hw _ (List.mem_of_getElem? (i := 86) rfl))) (ty := (.object "java/lang/String")) (by decide)
            have Fb138_children : Fld Z h138 b138 "com/example/ledgerleaf/ledgerleaf/Element" "children" "Ljava/util/List;" .null := D138 (Or.inr (hw _ (List.mem_of_getElem? (i := 88) rfl))) (ty := (.object "java/util/List")) (by decide)
            refine own_dup X138 hx (hb hby at_195) rfl rfl ?_
            refine own_aload X138 hx (hb hby at_196) rfl rfl rfl ?_
            refine own_aload X138 hx (hb hby at_198) rfl rfl rfl ?_
            refine own_aload X138 hx (hb hby at_200) rfl rfl rfl ?_
            refine own_special X138 hx hZ (y := (⟨"com/example/ledgerleaf/ledgerleaf/Element", "<init>", "(Ljava/lang/String;Ljava/lang/String;Ljava/util/List;)V"⟩ : MethodName)) rfl hown (hw _ (List.mem_of_getElem? (i := 74) rfl)) (hw _ (List.mem_of_getElem? (i := 75) rfl)) (hw _ (List.mem_of_getElem? (i := 73) rfl)) (hw _ (List.mem_of_getElem? (i := 76) rfl)) (by decide) e138 (by decide) (W := 1) (by decide) (by decide) (by decide) [(.ref a42), (.ref b22), (.ref b131)] [(.ref b138)] (by rw [hml]; rfl) (a := b138) (own_elR l Z a0 hw b138 a42 b22 b131 h138 n0 g_b138 A138 D138) own_pd11 rfl rfl rfl (hb hby at_202) rfl ?_
            intro v141 T141 L141 X141 hQ141
            obtain ⟨rfl, Nq141, Kq141, Ee141, Ft141⟩ := hQ141
            have N141 := Fr.app N135 Nq141
            have HH142 := HH140.keep Kq141 (sfS (Safe.exa hZ.alike A138 (by decide) (by decide)) sf0)
            show own_Ends p e below _ (T141.setTop (mkF m 205 #[.val (.int p1), .val (.int p2), .val (.int p3), .val (.int p4), .val (.int p5), .val (.ref b1), .val (.ref b9), .val (.ref b15), .val (.ref b22), .val (.ref b29), .val (.ref a42), .val (.int (p1 &&& (3 : Int32))), .val (.ref b22), .val (.int (0 : Int32)), .val (.ref b131), .val .null, .unset, .unset] [(.ref b138)]))
            refine own_astore X141 hx #[.val (.int p1), .val (.int p2), .val (.int p3), .val (.int p4), .val (.int p5), .val (.ref b1), .val (.ref b9), .val (.ref b15), .val (.ref b22), .val (.ref b29), .val (.ref a42), .val (.int (p1 &&& (3 : Int32))), .val (.ref b22), .val (.int (0 : Int32)), .val (.ref b131), .val .null, .val (.ref b138), .unset] (hb hby at_205) rfl rfl rfl ?_
            refine own_iload X141 hx (hb hby at_207) rfl rfl ?_
            refine own_ifF X141 hx (hb hby at_209) rfl (feq hc89_44).1 ?_
            refine own_iconst X141 hx (1 : Int32) (hb hby at_212) (by decide) rfl ?_
            refine own_goto X141 hx (hb hby at_213) (by decide) rfl ?_
            refine own_istore X141 hx #[.val (.int p1), .val (.int p2), .val (.int p3), .val (.int p4), .val (.int p5), .val (.ref b1), .val (.ref b9), .val (.ref b15), .val (.ref b22), .val (.ref b29), .val (.ref a42), .val (.int (p1 &&& (3 : Int32))), .val (.ref b22), .val (.int (0 : Int32)), .val (.ref b131), .val .null, .val (.ref b138), .val (.int (1 : Int32))] (hb hby at_217) rfl rfl ?_
            refine own_aload X141 hx (hb hby at_219) rfl rfl rfl ?_
            refine own_virtual X141 hx hZ (y := (⟨"com/example/ledgerleaf/ledgerleaf/Element", "holdsText", "()Z"⟩ : MethodName)) (z := (⟨"com/example/ledgerleaf/ledgerleaf/Element", "holdsText", "()Z"⟩ : MethodName)) hown (hw _ (List.mem_of_getElem? (i := 89) rfl)) (hw _ (List.mem_of_getElem? (i := 90) rfl)) (notFace_of_selects (args := #[]) (mvT hZ (hw _ (List.mem_of_getElem? (i := 92) rfl)))) (hw _ (List.mem_of_getElem? (i := 92) rfl)) (hw _ (List.mem_of_getElem? (i := 91) rfl)) (hw _ (List.mem_of_getElem? (i := 73) rfl)) (hw _ (List.mem_of_getElem? (i := 93) rfl)) (by decide) rfl (by decide) (W := 0) (by decide) (by decide) (by decide) [] [] (by rw [hml]; rfl) Ee141 (own_holdR l Z a0 hw b138 b22 T141.heap n0 Ft141) own_pd12 rfl rfl rfl (hb hby at_221) rfl ?_
            intro v143 T143 L143 X143 hQ143
            obtain ⟨rfl, Nq143, hh143⟩ := hQ143
            have N143 := Fr.app N141 Nq143
            show own_Ends p e below _ (T143.setTop (mkF m 224 #[.val (.int p1), .val (.int p2), .val (.int p3), .val (.int p4), .val (.int p5), .val (.ref b1), .val (.ref b9), .val (.ref b15), .val (.ref b22), .val (.ref b29), .val (.ref a42), .val (.int (p1 &&& (3 : Int32))), .val (.ref b22), .val (.int (0 : Int32)), .val (.ref b131), .val .null, .val (.ref b138), .val (.int (1 : Int32))] [(.int (1 : Int32))]))
            refine own_iload X143 hx (hb hby at_224) rfl rfl ?_
            refine own_icmpT X143 hx (hb hby at_226) (by decide) rfl (by decide) ?_
            refine own_aload X143 hx (hb hby at_231) rfl rfl rfl ?_
            refine own_ifnullT X143 hx (hb hby at_233) (by decide) rfl ?_
            refine own_iconst X143 hx (1 : Int32) (hb hby at_248) (by decide) rfl ?_
            exact own_retNH X143 hx hZ hh143 HH142 hEL hlocks hret (by simp) (hb hby at_249) (by decide) (by decide) (by decide) ⟨rfl, N143⟩
          · refine own_new X135 hx hZ hown (hw _ (List.mem_of_getElem? (i := 71) rfl)) (hw _ (List.mem_of_getElem? (i := 72) rfl)) (hw _ (List.mem_of_getElem? (i := 73) rfl)) rfl (hb hby at_155) (by decide) (by decide) rfl ?_
            intro T144 h144 b144 X144 e144 g144 E144 A144 D144
            have f145 := (f134.keep Kq135 (allS g_b131 all0))
            have g_b144 : n0 ≤ b144 := Nat.le_trans (own_oz f145) (Nat.le_of_eq g144.symm)
            have HH146 := HH136.ext E144
            have Fb144_name : Fld Z h144 b144 "com/example/ledgerleaf/ledgerleaf/Element" "name" "Ljava/lang/String;" .null := D144 (Or.inr (hw _ (List.mem_of_getElem? (i := 84) rfl))) (ty := (.object "java/lang/String")) (by decide)
            have Fb144_text : Fld Z h144 b144 "com/example/ledgerleaf/ledgerleaf/Element" "text" "Ljava/lang/String;" .null := D144 (Or.inr (hw _ (List.mem_of_getElem? (i := 86) rfl))) (ty := (.object "java/lang/String")) (by decide)
            have Fb144_children : Fld Z h144 b144 "com/example/ledgerleaf/ledgerleaf/Element" "children" "Ljava/util/List;" .null := D144 (Or.inr (hw _ (List.mem_of_getElem? (i := 88) rfl))) (ty := (.object "java/util/List")) (by decide)
            refine own_dup X144 hx (hb hby at_158) rfl rfl ?_
            refine own_aload X144 hx (hb hby at_159) rfl rfl rfl ?_
            refine own_iload X144 hx (hb hby at_161) rfl rfl ?_
            refine own_ifT X144 hx (hb hby at_163) (by decide) rfl (by decide) ?_
            refine own_aconst_null X144 hx (hb hby at_171) rfl ?_
            refine own_new X144 hx hZ hown (hw _ (List.mem_of_getElem? (i := 47) rfl)) (hw _ (List.mem_of_getElem? (i := 48) rfl)) (hw _ (List.mem_of_getElem? (i := 49) rfl)) e144 (hb hby at_172) (by decide) (by decide) rfl ?_
            intro T147 h147 b147 X147 e147 g147 E147 A147 D147
            have f148 := (f145.ext E144)
            have g_b147 : n0 ≤ b147 := Nat.le_trans (own_oz f148) (Nat.le_of_eq g147.symm)
            have HH149 := HH146.ext E147
            have Fb147_modCount : Fld Z h147 b147 "java/util/AbstractList" "modCount" "I" (.int (0 : Int32)) := D147 (Or.inl (hw _ (List.mem_of_getElem? (i := 67) rfl))) (ty := .int) (by decide)
            have Fb147_elementData : Fld Z h147 b147 "java/util/ArrayList" "elementData" "[Ljava/lang/Object;" .null := D147 (Or.inl (hw _ (List.mem_of_getElem? (i := 70) rfl))) (ty := (.array (.object "java/lang/Object"))) (by decide)
            have Fb147_size : Fld Z h147 b147 "java/util/ArrayList" "size" "I" (.int (0 : Int32)) := D147 (Or.inl (hw _ (List.mem_of_getElem? (i := 102) rfl))) (ty := .int) (by decide)
            refine own_dup X147 hx (hb hby at_175) rfl rfl ?_
            have f150 := (f148.ext E147)
            refine own_special X147 hx hZ (y := (⟨"java/util/ArrayList", "<init>", "()V"⟩ : MethodName)) rfl hown (hw _ (List.mem_of_getElem? (i := 50) rfl)) (hw _ (List.mem_of_getElem? (i := 51) rfl)) (hw _ (List.mem_of_getElem? (i := 49) rfl)) (hw _ (List.mem_of_getElem? (i := 52) rfl)) (by decide) e147 (by decide) (W := 5) (by decide) (by decide) (by decide) [] [(.ref b147), .null, (.ref a42), (.ref b144), (.ref b144)] (by rw [hml]; rfl) (a := b147) (own_ali l Z a0 hw b147 de kd h147 n0 f150 g_b147 SD VD A147 D147) own_pd4 rfl rfl rfl (hb hby at_176) rfl ?_
            intro v151 T151 L151 X151 hQ151
            obtain ⟨rfl, Nq151, Kq151, Al151⟩ := hQ151
            have N151 := Fr.app N135 Nq151
            have HH152 := HH149.keep Kq151 (sfS (Safe.exa hZ.alike A147 (by decide) (by decide)) sf0)
            obtain ⟨El151, Ml151, Dl151, Sl151⟩ := Al151
            show own_Ends p e below _ (T151.setTop (mkF m 179 #[.val (.int p1), .val (.int p2), .val (.int p3), .val (.int p4), .val (.int p5), .val (.ref b1), .val (.ref b9), .val (.ref b15), .val (.ref b22), .val (.ref b29), .val (.ref a42), .val (.int (p1 &&& (3 : Int32))), .val (.ref b22), .val (.int (0 : Int32)), .val (.ref b131), .val .null, .unset, .unset] [(.ref b147), .null, (.ref a42), (.ref b144), (.ref b144)]))
            have f153 := ((A144.ext E147).keep Kq151)
            refine own_special X151 hx hZ (y := (⟨"com/example/ledgerleaf/ledgerleaf/Element", "<init>", "(Ljava/lang/String;Ljava/lang/String;Ljava/util/List;)V"⟩ : MethodName)) rfl hown (hw _ (List.mem_of_getElem? (i := 74) rfl)) (hw _ (List.mem_of_getElem? (i := 75) rfl)) (hw _ (List.mem_of_getElem? (i := 73) rfl)) (hw _ (List.mem_of_getElem? (i := 76) rfl)) (by decide) rfl (by decide) (W := 1) (by decide) (by decide) (by decide) [(.ref a42), .null, (.ref b147)] [(.ref b144)] (by rw [hml]; rfl) (a := b144) (own_elN l Z a0 hw b144 a42 b147 T151.heap n0 g_b144 f153 (fun L p => (((D144 L p).ext E147).keep Kq151 (ninS (Nat.ne_of_lt (Nat.lt_of_lt_of_le A144.lt (Nat.le_of_eq g147.symm))) nin0)))) own_pd11 rfl rfl rfl (hb hby at_179) rfl ?_
            intro v154 T154 L154 X154 hQ154
            obtain ⟨rfl, Nq154, Kq154, Ee154, Ft154⟩ := hQ154
            have N154 := Fr.app N151 Nq154
            have HH155 := HH152.keep Kq154 (sfS (Safe.exa hZ.alike f153 (by decide) (by decide)) sf0)
            show own_Ends p e below _ (T154.setTop (mkF m 182 #[.val (.int p1), .val (.int p2), .val (.int p3), .val (.int p4), .val (.int p5), .val (.ref b1), .val (.ref b9), .val (.ref b15), .val (.ref b22), .val (.ref b29), .val (.ref a42), .val (.int (p1 &&& (3 : Int32))), .val (.ref b22), .val (.int (0 : Int32)), .val (.ref b131), .val .null, .unset, .unset] [(.ref b144)]))
            refine own_astore X154 hx #[.val (.int p1), .val (.int p2), .val (.int p3), .val (.int p4), .val (.int p5), .val (.ref b1), .val (.ref b9), .val (.ref b15), .val (.ref b22), .val (.ref b29), .val (.ref a42), .val (.int (p1 &&& (3 : Int32))), .val (.ref b22), .val (.int (0 : Int32)), .val (.ref b131), .val (.ref b144), .unset, .unset] (hb hby at_182) rfl rfl rfl ?_
            refine own_aload X154 hx (hb hby at_184) rfl rfl rfl ?_
            refine own_aload X154 hx (hb hby at_186) rfl rfl rfl ?_
            have f156 := ((((El135.ext E144).ext E147).keep Kq151).keep Kq154)
            have f157 := ((f150.keep Kq151 (allS g_b147 all0)).keep Kq154 (allS g_b144 all0))
            have f158 := ((((Ml135.ext E144).ext E147).keep Kq151 (ninS (Nat.ne_of_lt (Nat.lt_of_lt_of_le (El135.ext E144).lt (Nat.le_of_eq g147.symm))) nin0)).keep Kq154 (ninS (Nat.ne_of_lt (Nat.lt_of_lt_of_le El135.lt (Nat.le_of_eq g144.symm))) nin0))
            have f159 := ((((Dl135.ext E144).ext E147).keep Kq151 (ninS (Nat.ne_of_lt (Nat.lt_of_lt_of_le (El135.ext E144).lt (Nat.le_of_eq g147.symm))) nin0)).keep Kq154 (ninS (Nat.ne_of_lt (Nat.lt_of_lt_of_le El135.lt (Nat.le_of_eq g144.symm))) nin0))
            have f160 := ((((Sl135.ext E144).ext E147).keep Kq151 (ninS (Nat.ne_of_lt (Nat.lt_of_lt_of_le (El135.ext E144).lt (Nat.le_of_eq g147.symm))) nin0)).keep Kq154 (ninS (Nat.ne_of_lt (Nat.lt_of_lt_of_le El135.lt (Nat.le_of_eq g144.symm))) nin0))
            refine own_virtual X154 hx hZ (y := (⟨"java/util/ArrayList", "add", "(Ljava/lang/Object;)Z"⟩ : MethodName)) (z := (⟨"java/util/ArrayList", "add", "(Ljava/lang/Object;)Z"⟩ : MethodName)) hown (hw _ (List.mem_of_getElem? (i := 94) rfl)) (hw _ (List.mem_of_getElem? (i := 95) rfl)) (notFace_of_selects (args := #[]) (mvT hZ (hw _ (List.mem_of_getElem? (i := 97) rfl)))) (hw _ (List.mem_of_getElem? (i := 97) rfl)) (hw _ (List.mem_of_getElem? (i := 96) rfl)) (hw _ (List.mem_of_getElem? (i := 49) rfl)) (hw _ (List.mem_of_getElem? (i := 98) rfl)) (by decide) rfl (by decide) (W := 0) (by decide) (by decide) (by decide) [(.ref b144)] [] (by rw [hml]; rfl) f156 (own_addE l Z a0 hw b131 b144 de kd (0 : Int32) T154.heap n0 f157 g_b131 SD VD ⟨f156, f158, f159, f160⟩ (Ins.of_exa Ee154 (hw _ (List.mem_of_getElem? (i := 124) rfl)))) own_pd13 rfl rfl rfl (hb hby at_188) rfl ?_
            intro v161 T161 L161 X161 hQ161
            obtain ⟨rfl, Nq161, Kq161, b161, k161, g_b161, sz_b161, Al161, V161, Ov161⟩ := hQ161
            have N161 := Fr.app N154 Nq161
            have HH162 := HH155.keep Kq161 (sfS (Safe.exa hZ.alike f156 (by decide) (by decide)) sf0)
            obtain ⟨El161, Ml161, Dl161, Sl161⟩ := Al161
            show own_Ends p e below _ (T161.setTop (mkF m 191 #[.val (.int p1), .val (.int p2), .val (.int p3), .val (.int p4), .val (.int p5), .val (.ref b1), .val (.ref b9), .val (.ref b15), .val (.ref b22), .val (.ref b29), .val (.ref a42), .val (.int (p1 &&& (3 : Int32))), .val (.ref b22), .val (.int (0 : Int32)), .val (.ref b131), .val (.ref b144), .unset, .unset] [(.int (1 : Int32))]))
            refine own_pop X161 hx (hb hby at_191) rfl rfl ?_
            refine own_new X161 hx hZ hown (hw _ (List.mem_of_getElem? (i := 71) rfl)) (hw _ (List.mem_of_getElem? (i := 72) rfl)) (hw _ (List.mem_of_getElem? (i := 73) rfl)) rfl (hb hby at_192) (by decide) (by decide) rfl ?_
            intro T163 h163 b163 X163 e163 g163 E163 A163 D163
            have f164 := (f157.keep Kq161 (allS g_b131 all0))
            have g_b163 : n0 ≤ b163 := Nat.le_trans (own_oz f164) (Nat.le_of_eq g163.symm)
            have HH165 := HH162.ext E163
            have Fb163_name : Fld Z h163 b163 "com/example/ledgerleaf/ledgerleaf/Element" "name" "Ljava/lang/String;" .null := D163 (Or.inr (hw _ (List.mem_of_getElem? (i := 84) rfl))) (ty := (.object "java/lang/String")) (by decide)
            have Fb163_text : Fld Z h163 b163 "com/example/ledgerleaf/ledgerleaf/Element" "text" "Ljava/lang/String;" .null := D163 (Or.inr (hw _ (List.mem_of_getElem? (i := 86) rfl))) (ty := (.object "java/lang/String")) (by decide)
            have Fb163_children : Fld Z h163 b163 "com/example/ledgerleaf/ledgerleaf/Element" "children" "Ljava/util/List;" .null := D163 (Or.inr (hw _ (List.mem_of_getElem? (i := 88) rfl))) (ty := (.object "java/util/List")) (by decide)
            refine own_dup X163 hx (hb hby at_195) rfl rfl ?_
            refine own_aload X163 hx (hb hby at_196) rfl rfl rfl ?_
            refine own_aload X163 hx (hb hby at_198) rfl rfl rfl ?_
            refine own_aload X163 hx (hb hby at_200) rfl rfl rfl ?_
            refine own_special X163 hx hZ (y := (⟨"com/example/ledgerleaf/ledgerleaf/Element", "<init>", "(Ljava/lang/String;Ljava/lang/String;Ljava/util/List;)V"⟩ : MethodName)) rfl hown (hw _ (List.mem_of_getElem? (i := 74) rfl)) (hw _ (List.mem_of_getElem? (i := 75) rfl)) (hw _ (List.mem_of_getElem? (i := 73) rfl)) (hw _ (List.mem_of_getElem? (i := 76) rfl)) (by decide) e163 (by decide) (W := 1) (by decide) (by decide) (by decide) [(.ref a42), (.ref b22), (.ref b131)] [(.ref b163)] (by rw [hml]; rfl) (a := b163) (own_elR l Z a0 hw b163 a42 b22 b131 h163 n0 g_b163 A163 D163) own_pd11 rfl rfl rfl (hb hby at_202) rfl ?_
            intro v166 T166 L166 X166 hQ166
            obtain ⟨rfl, Nq166, Kq166, Ee166, Ft166⟩ := hQ166
            have N166 := Fr.app N161 Nq166
            have HH167 := HH165.keep Kq166 (sfS (Safe.exa hZ.alike A163 (by decide) (by decide)) sf0)
            show own_Ends p e below _ (T166.setTop (mkF m 205 #[.val (.int p1), .val (.int p2), .val (.int p3), .val (.int p4), .val (.int p5), .val (.ref b1), .val (.ref b9), .val (.ref b15), .val (.ref b22), .val (.ref b29), .val (.ref a42), .val (.int (p1 &&& (3 : Int32))), .val (.ref b22), .val (.int (0 : Int32)), .val (.ref b131), .val (.ref b144), .unset, .unset] [(.ref b163)]))
            refine own_astore X166 hx #[.val (.int p1), .val (.int p2), .val (.int p3), .val (.int p4), .val (.int p5), .val (.ref b1), .val (.ref b9), .val (.ref b15), .val (.ref b22), .val (.ref b29), .val (.ref a42), .val (.int (p1 &&& (3 : Int32))), .val (.ref b22), .val (.int (0 : Int32)), .val (.ref b131), .val (.ref b144), .val (.ref b163), .unset] (hb hby at_205) rfl rfl rfl ?_
            refine own_iload X166 hx (hb hby at_207) rfl rfl ?_
            refine own_ifF X166 hx (hb hby at_209) rfl (feq hc89_44).1 ?_
            refine own_iconst X166 hx (1 : Int32) (hb hby at_212) (by decide) rfl ?_
            refine own_goto X166 hx (hb hby at_213) (by decide) rfl ?_
            refine own_istore X166 hx #[.val (.int p1), .val (.int p2), .val (.int p3), .val (.int p4), .val (.int p5), .val (.ref b1), .val (.ref b9), .val (.ref b15), .val (.ref b22), .val (.ref b29), .val (.ref a42), .val (.int (p1 &&& (3 : Int32))), .val (.ref b22), .val (.int (0 : Int32)), .val (.ref b131), .val (.ref b144), .val (.ref b163), .val (.int (1 : Int32))] (hb hby at_217) rfl rfl ?_
            refine own_aload X166 hx (hb hby at_219) rfl rfl rfl ?_
            refine own_virtual X166 hx hZ (y := (⟨"com/example/ledgerleaf/ledgerleaf/Element", "holdsText", "()Z"⟩ : MethodName)) (z := (⟨"com/example/ledgerleaf/ledgerleaf/Element", "holdsText", "()Z"⟩ : MethodName)) hown (hw _ (List.mem_of_getElem? (i := 89) rfl)) (hw _ (List.mem_of_getElem? (i := 90) rfl)) (notFace_of_selects (args := #[]) (mvT hZ (hw _ (List.mem_of_getElem? (i := 92) rfl)))) (hw _ (List.mem_of_getElem? (i := 92) rfl)) (hw _ (List.mem_of_getElem? (i := 91) rfl)) (hw _ (List.mem_of_getElem? (i := 73) rfl)) (hw _ (List.mem_of_getElem? (i := 93) rfl)) (by decide) rfl (by decide) (W := 0) (by decide) (by decide) (by decide) [] [] (by rw [hml]; rfl) Ee166 (own_holdR l Z a0 hw b163 b22 T166.heap n0 Ft166) own_pd12 rfl rfl rfl (hb hby at_221) rfl ?_
            intro v168 T168 L168 X168 hQ168
            obtain ⟨rfl, Nq168, hh168⟩ := hQ168
            have N168 := Fr.app N166 Nq168
            show own_Ends p e below _ (T168.setTop (mkF m 224 #[.val (.int p1), .val (.int p2), .val (.int p3), .val (.int p4), .val (.int p5), .val (.ref b1), .val (.ref b9), .val (.ref b15), .val (.ref b22), .val (.ref b29), .val (.ref a42), .val (.int (p1 &&& (3 : Int32))), .val (.ref b22), .val (.int (0 : Int32)), .val (.ref b131), .val (.ref b144), .val (.ref b163), .val (.int (1 : Int32))] [(.int (1 : Int32))]))
            refine own_iload X168 hx (hb hby at_224) rfl rfl ?_
            refine own_icmpT X168 hx (hb hby at_226) (by decide) rfl (by decide) ?_
            refine own_aload X168 hx (hb hby at_231) rfl rfl rfl ?_
            refine own_ifnullF X168 hx (hb hby at_233) rfl ?_
            refine own_aload X168 hx (hb hby at_236) rfl rfl rfl ?_
            have f169 := (((Ft154.keep Kq161 (ninS (Ne.symm (Nat.ne_of_lt (Nat.lt_of_lt_of_le El135.lt (Nat.le_of_eq g144.symm)))) nin0)).ext E163).keep Kq166 (ninS (Nat.ne_of_lt (Nat.lt_of_lt_of_le (Ee154.keep Kq161).lt (Nat.le_of_eq g163.symm))) nin0))
            have f171 := (((Ee154.keep Kq161).ext E163).keep Kq166)
            refine own_virtual X168 hx hZ (y := (⟨"com/example/ledgerleaf/ledgerleaf/Element", "holdsText", "()Z"⟩ : MethodName)) (z := (⟨"com/example/ledgerleaf/ledgerleaf/Element", "holdsText", "()Z"⟩ : MethodName)) hown (hw _ (List.mem_of_getElem? (i := 89) rfl)) (hw _ (List.mem_of_getElem? (i := 90) rfl)) (notFace_of_selects (args := #[]) (mvT hZ (hw _ (List.mem_of_getElem? (i := 92) rfl)))) (hw _ (List.mem_of_getElem? (i := 92) rfl)) (hw _ (List.mem_of_getElem? (i := 91) rfl)) (hw _ (List.mem_of_getElem? (i := 73) rfl)) (hw _ (List.mem_of_getElem? (i := 93) rfl)) (by decide) hh168 (by decide) (W := 0) (by decide) (by decide) (by decide) [] [] (by rw [hml]; rfl) f171 (own_holdN l Z a0 hw b144 T166.heap n0 f169) own_pd12 rfl rfl rfl (hb hby at_238) rfl ?_
            intro v170 T170 L170 X170 hQ170
            obtain ⟨rfl, Nq170, hh170⟩ := hQ170
            have N170 := Fr.app N168 Nq170
            show own_Ends p e below _ (T170.setTop (mkF m 241 #[.val (.int p1), .val (.int p2), .val (.int p3), .val (.int p4), .val (.int p5), .val (.ref b1), .val (.ref b9), .val (.ref b15), .val (.ref b22), .val (.ref b29), .val (.ref a42), .val (.int (p1 &&& (3 : Int32))), .val (.ref b22), .val (.int (0 : Int32)), .val (.ref b131), .val (.ref b144), .val (.ref b163), .val (.int (1 : Int32))] [(.int (0 : Int32))]))
            refine own_iload X170 hx (hb hby at_241) rfl rfl ?_
            refine own_icmpT X170 hx (hb hby at_243) (by decide) rfl (by decide) ?_
            refine own_iconst X170 hx (1 : Int32) (hb hby at_248) (by decide) rfl ?_
            exact own_retNH X170 hx hZ hh170 HH167 hEL hlocks hret (by simp) (hb hby at_249) (by decide) (by decide) (by decide) ⟨rfl, N170⟩
        · refine own_iconst X42 hx (1 : Int32) (hb hby at_129) (by decide) rfl ?_
          refine own_goto X42 hx (hb hby at_130) (by decide) rfl ?_
          refine own_istore X42 hx #[.val (.int p1), .val (.int p2), .val (.int p3), .val (.int p4), .val (.int p5), .val (.ref b1), .val (.ref b9), .val (.ref b15), .val (.ref b22), .val (.ref b29), .val (.ref a42), .val (.int (p1 &&& (3 : Int32))), .val (.ref b22), .val (.int (1 : Int32)), .unset, .unset, .unset, .unset] (hb hby at_134) rfl rfl ?_
          refine own_new X42 hx hZ hown (hw _ (List.mem_of_getElem? (i := 47) rfl)) (hw _ (List.mem_of_getElem? (i := 48) rfl)) (hw _ (List.mem_of_getElem? (i := 49) rfl)) rfl (hb hby at_136) (by decide) (by decide) rfl ?_
          intro T172 h172 b172 X172 e172 g172 E172 A172 D172
          have f173 := (f41.keep Kq42 all0)
          have g_b172 : n0 ≤ b172 := Nat.le_trans (own_oz f173) (Nat.le_of_eq g172.symm)
          have HH174 := HH43.ext E172
          have Fb172_modCount : Fld Z h172 b172 "java/util/AbstractList" "modCount" "I" (.int (0 : Int32)) := D172 (Or.inl (hw _ (List.mem_of_getElem? (i := 67) rfl))) (ty := .int) (by decide)
          have Fb172_elementData : Fld Z h172 b172 "java/util/ArrayList" "elementData" "[Ljava/lang/Object;" .null := D172 (Or.inl (hw _ (List.mem_of_getElem? (i := 70) rfl))) (ty := (.array (.object "java/lang/Object"))) (by decide)
          have Fb172_size : Fld Z h172 b172 "java/util/ArrayList" "size" "I" (.int (0 : Int32)) := D172 (Or.inl (hw _ (List.mem_of_getElem? (i := 102) rfl))) (ty := .int) (by decide)
          refine own_dup X172 hx (hb hby at_139) rfl rfl ?_
          have f175 := (f173.ext E172)
          refine own_special X172 hx hZ (y := (⟨"java/util/ArrayList", "<init>", "()V"⟩ : MethodName)) rfl hown (hw _ (List.mem_of_getElem? (i := 50) rfl)) (hw _ (List.mem_of_getElem? (i := 51) rfl)) (hw _ (List.mem_of_getElem? (i := 49) rfl)) (hw _ (List.mem_of_getElem? (i := 52) rfl)) (by decide) e172 (by decide) (W := 1) (by decide) (by decide) (by decide) [] [(.ref b172)] (by rw [hml]; rfl) (a := b172) (own_ali l Z a0 hw b172 de kd h172 n0 f175 g_b172 SD VD A172 D172) own_pd4 rfl rfl rfl (hb hby at_140) rfl ?_
          intro v176 T176 L176 X176 hQ176
          obtain ⟨rfl, Nq176, Kq176, Al176⟩ := hQ176
          have N176 := Fr.app N42 Nq176
          have HH177 := HH174.keep Kq176 (sfS (Safe.exa hZ.alike A172 (by decide) (by decide)) sf0)
          obtain ⟨El176, Ml176, Dl176, Sl176⟩ := Al176
          show own_Ends p e below _ (T176.setTop (mkF m 143 #[.val (.int p1), .val (.int p2), .val (.int p3), .val (.int p4), .val (.int p5), .val (.ref b1), .val (.ref b9), .val (.ref b15), .val (.ref b22), .val (.ref b29), .val (.ref a42), .val (.int (p1 &&& (3 : Int32))), .val (.ref b22), .val (.int (1 : Int32)), .unset, .unset, .unset, .unset] [(.ref b172)]))
          refine own_astore X176 hx #[.val (.int p1), .val (.int p2), .val (.int p3), .val (.int p4), .val (.int p5), .val (.ref b1), .val (.ref b9), .val (.ref b15), .val (.ref b22), .val (.ref b29), .val (.ref a42), .val (.int (p1 &&& (3 : Int32))), .val (.ref b22), .val (.int (1 : Int32)), .val (.ref b172), .unset, .unset, .unset] (hb hby at_143) rfl rfl rfl ?_
          refine own_aconst_null X176 hx (hb hby at_145) rfl ?_
          refine own_astore X176 hx #[.val (.int p1), .val (.int p2), .val (.int p3), .val (.int p4), .val (.int p5), .val (.ref b1), .val (.ref b9), .val (.ref b15), .val (.ref b22), .val (.ref b29), .val (.ref a42), .val (.int (p1 &&& (3 : Int32))), .val (.ref b22), .val (.int (1 : Int32)), .val (.ref b172), .val .null, .unset, .unset] (hb hby at_146) rfl rfl rfl ?_
          refine own_iload X176 hx (hb hby at_148) rfl rfl ?_
          refine own_iconst X176 hx (1 : Int32) (hb hby at_150) (by decide) rfl ?_
          refine own_iand X176 hx (hb hby at_151) rfl ?_
          refine own_if_eq X176 hx (hb hby at_152) (by decide) rfl rfl (fun hc152_178 => ?_) (fun hc152_178 => ?_)
          · refine own_new X176 hx hZ hown (hw _ (List.mem_of_getElem? (i := 71) rfl)) (hw _ (List.mem_of_getElem? (i := 72) rfl)) (hw _ (List.mem_of_getElem? (i := 73) rfl)) rfl (hb hby at_192) (by decide) (by decide) rfl ?_
            intro T179 h179 b179 X179 e179 g179 E179 A179 D179
            have f180 := (f175.keep Kq176 (allS g_b172 all0))
            have g_b179 : n0 ≤ b179 := Nat.le_trans (own_oz f180) (Nat.le_of_eq g179.symm)
            have HH181 := HH177.ext E179
            have Fb179_name : Fld Z h179 b179 "com/example/ledgerleaf/ledgerleaf/Element" "name" "Ljava/lang/String;" .null := D179 (Or.inr (hw _ (List.mem_of_getElem? (i := 84) rfl))) (ty := (.object "java/lang/String")) (by decide)
            have Fb179_text : Fld Z h179 b179 "com/example/ledgerleaf/ledgerleaf/Element" "text" "Ljava/lang/String;" .null := D179 (Or.inr (hw _ (List.mem_of_getElem? (i := 86) rfl))) (ty := (.object "java/lang/String")) (by decide)
            have Fb179_children : Fld Z h179 b179 "com/example/ledgerleaf/ledgerleaf/Element" "children" "Ljava/util/List;" .null := D179 (Or.inr (hw _ (List.mem_of_getElem? (i := 88) rfl))) (ty := (.object "java/util/List")) (by decide)
            refine own_dup X179 hx (hb hby at_195) rfl rfl ?_
            refine own_aload X179 hx (hb hby at_196) rfl rfl rfl ?_
            refine own_aload X179 hx (hb hby at_198) rfl rfl rfl ?_
            refine own_aload X179 hx (hb hby at_200) rfl rfl rfl ?_
            refine own_special X179 hx hZ (y := (⟨"com/example/ledgerleaf/ledgerleaf/Element", "<init>", "(Ljava/lang/String;Ljava/lang/String;Ljava/util/List;)V"⟩ : MethodName)) rfl hown (hw _ (List.mem_of_getElem? (i := 74) rfl)) (hw _ (List.mem_of_getElem? (i := 75) rfl)) (hw _ (List.mem_of_getElem? (i := 73) rfl)) (hw _ (List.mem_of_getElem? (i := 76) rfl)) (by decide) e179 (by decide) (W := 1) (by decide) (by decide) (by decide) [(.ref a42), (.ref b22), (.ref b172)] [(.ref b179)] (by rw [hml]; rfl) (a := b179) (own_elR l Z a0 hw b179 a42 b22 b172 h179 n0 g_b179 A179 D179) own_pd11 rfl rfl rfl (hb hby at_202) rfl ?_
            intro v182 T182 L182 X182 hQ182
            obtain ⟨rfl, Nq182, Kq182, Ee182, Ft182⟩ := hQ182
            have N182 := Fr.app N176 Nq182
            have HH183 := HH181.keep Kq182 (sfS (Safe.exa hZ.alike A179 (by decide) (by decide)) sf0)
            show own_Ends p e below _ (T182.setTop (mkF m 205 #[.val (.int p1), .val (.int p2), .val (.int p3), .val (.int p4), .val (.int p5), .val (.ref b1), .val (.ref b9), .val (.ref b15), .val (.ref b22), .val (.ref b29), .val (.ref a42), .val (.int (p1 &&& (3 : Int32))), .val (.ref b22), .val (.int (1 : Int32)), .val (.ref b172), .val .null, .unset, .unset] [(.ref b179)]))
            refine own_astore X182 hx #[.val (.int p1), .val (.int p2), .val (.int p3), .val (.int p4), .val (.int p5), .val (.ref b1), .val (.ref b9), .val (.ref b15), .val (.ref b22), .val (.ref b29), .val (.ref a42), .val (.int (p1 &&& (3 : Int32))), .val (.ref b22), .val (.int (1 : Int32)), .val (.ref b172), .val .null, .val (.ref b179), .unset] (hb hby at_205) rfl rfl rfl ?_
            refine own_iload X182 hx (hb hby at_207) rfl rfl ?_
            refine own_ifF X182 hx (hb hby at_209) rfl (feq hc89_44).1 ?_
            refine own_iconst X182 hx (1 : Int32) (hb hby at_212) (by decide) rfl ?_
            refine own_goto X182 hx (hb hby at_213) (by decide) rfl ?_
            refine own_istore X182 hx #[.val (.int p1), .val (.int p2), .val (.int p3), .val (.int p4), .val (.int p5), .val (.ref b1), .val (.ref b9), .val (.ref b15), .val (.ref b22), .val (.ref b29), .val (.ref a42), .val (.int (p1 &&& (3 : Int32))), .val (.ref b22), .val (.int (1 : Int32)), .val (.ref b172), .val .null, .val (.ref b179), .val (.int (1 : Int32))] (hb hby at_217) rfl rfl ?_
            refine own_aload X182 hx (hb hby at_219) rfl rfl rfl ?_
            refine own_virtual X182 hx hZ (y := (⟨"com/example/ledgerleaf/ledgerleaf/Element", "holdsText", "()Z"⟩ : MethodName)) (z := (⟨"com/example/ledgerleaf/ledgerleaf/Element", "holdsText", "()Z"⟩ : MethodName)) hown (hw _ (List.mem_of_getElem? (i := 89) rfl)) (hw _ (List.mem_of_getElem? (i := 90) rfl)) (notFace_of_selects (args := #[]) (mvT hZ (hw _ (List.mem_of_getElem? (i := 92) rfl)))) (hw _ (List.mem_of_getElem? (i := 92) rfl)) (hw _ (List.mem_of_getElem? (i := 91) rfl)) (hw _ (List.mem_of_getElem? (i := 73) rfl)) (hw _ (List.mem_of_getElem? (i := 93) rfl)) (by decide) rfl (by decide) (W := 0) (by decide) (by decide) (by decide) [] [] (by rw [hml]; rfl) Ee182 (own_holdR l Z a0 hw b179 b22 T182.heap n0 Ft182) own_pd12 rfl rfl rfl (hb hby at_221) rfl ?_
            intro v184 T184 L184 X184 hQ184
            obtain ⟨rfl, Nq184, hh184⟩ := hQ184
            have N184 := Fr.app N182 Nq184
            show own_Ends p e below _ (T184.setTop (mkF m 224 #[.val (.int p1), .val (.int p2), .val (.int p3), .val (.int p4), .val (.int p5), .val (.ref b1), .val (.ref b9), .val (.ref b15), .val (.ref b22), .val (.ref b29), .val (.ref a42), .val (.int (p1 &&& (3 : Int32))), .val (.ref b22), .val (.int (1 : Int32)), .val (.ref b172), .val .null, .val (.ref b179), .val (.int (1 : Int32))] [(.int (1 : Int32))]))
            refine own_iload X184 hx (hb hby at_224) rfl rfl ?_
            refine own_icmpT X184 hx (hb hby at_226) (by decide) rfl (by decide) ?_
            refine own_aload X184 hx (hb hby at_231) rfl rfl rfl ?_
            refine own_ifnullT X184 hx (hb hby at_233) (by decide) rfl ?_
            refine own_iconst X184 hx (1 : Int32) (hb hby at_248) (by decide) rfl ?_
            exact own_retNH X184 hx hZ hh184 HH183 hEL hlocks hret (by simp) (hb hby at_249) (by decide) (by decide) (by decide) ⟨rfl, N184⟩
          · refine own_new X176 hx hZ hown (hw _ (List.mem_of_getElem? (i := 71) rfl)) (hw _ (List.mem_of_getElem? (i := 72) rfl)) (hw _ (List.mem_of_getElem? (i := 73) rfl)) rfl (hb hby at_155) (by decide) (by decide) rfl ?_
            intro T185 h185 b185 X185 e185 g185 E185 A185 D185
            have f186 := (f175.keep Kq176 (allS g_b172 all0))
            have g_b185 : n0 ≤ b185 := Nat.le_trans (own_oz f186) (Nat.le_of_eq g185.symm)
            have HH187 := HH177.ext E185
            have Fb185_name : Fld Z h185 b185 "com/example/ledgerleaf/ledgerleaf/Element" "name" "Ljava/lang/String;" .null := D185 (Or.inr (hw _ (List.mem_of_getElem? (i := 84) rfl))) (ty := (.object "java/lang/String")) (by decide)
            have Fb185_text : Fld Z h185 b185 "com/example/ledgerleaf/ledgerleaf/Element" "text" "Ljava/lang/String;" .null := D185 (Or.inr (hw _ (List.mem_of_getElem? (i := 86) rfl))) (ty := (.object "java/lang/String")) (by decide)
            have Fb185_children : Fld Z h185 b185 "com/example/ledgerleaf/ledgerleaf/Element" "children" "Ljava/util/List;" .null := D185 (Or.inr (hw _ (List.mem_of_getElem? (i := 88) rfl))) (ty := (.object "java/util/List")) (by decide)
            refine own_dup X185 hx (hb hby at_158) rfl rfl ?_
            refine own_aload X185 hx (hb hby at_159) rfl rfl rfl ?_
            refine own_iload X185 hx (hb hby at_161) rfl rfl ?_
            refine own_ifF X185 hx (hb hby at_163) rfl (by decide) ?_
            refine own_aload X185 hx (hb hby at_166) rfl rfl rfl ?_
            refine own_goto X185 hx (hb hby at_168) (by decide) rfl ?_
            refine own_new X185 hx hZ hown (hw _ (List.mem_of_getElem? (i := 47) rfl)) (hw _ (List.mem_of_getElem? (i := 48) rfl)) (hw _ (List.mem_of_getElem? (i := 49) rfl)) e185 (hb hby at_172) (by decide) (by decide) rfl ?_
            intro T188 h188 b188 X188 e188 g188 E188 A188 D188
            have f189 := (f186.ext E185)
            have g_b188 : n0 ≤ b188 := Nat.le_trans (own_oz f189) (Nat.le_of_eq g188.symm)
            have HH190 := HH187.ext E188
            have Fb188_modCount : Fld Z h188 b188 "java/util/AbstractList" "modCount" "I" (.int (0 : Int32)) := D188 (Or.inl (hw _ (List.mem_of_getElem? (i := 67) rfl))) (ty := .int) (by decide)
            have Fb188_elementData : Fld Z h188 b188 "java/util/ArrayList" "elementData" "[Ljava/lang/Object;" .null := D188 (Or.inl (hw _ (List.mem_of_getElem? (i := 70) rfl))) (ty := (.array (.object "java/lang/Object"))) (by decide)
            have Fb188_size : Fld Z h188 b188 "java/util/ArrayList" "size" "I" (.int (0 : Int32)) := D188 (Or.inl (hw _ (List.mem_of_getElem? (i := 102) rfl))) (ty := .int) (by decide)
            refine own_dup X188 hx (hb hby at_175) rfl rfl ?_
            have f191 := (f189.ext E188)
            refine own_special X188 hx hZ (y := (⟨"java/util/ArrayList", "<init>", "()V"⟩ : MethodName)) rfl hown (hw _ (List.mem_of_getElem? (i := 50) rfl)) (hw _ (List.mem_of_getElem? (i := 51) rfl)) (hw _ (List.mem_of_getElem? (i := 49) rfl)) (hw _ (List.mem_of_getElem? (i := 52) rfl)) (by decide) e188 (by decide) (W := 5) (by decide) (by decide) (by decide) [] [(.ref b188), (.ref b22), (.ref a42), (.ref b185), (.ref b185)] (by rw [hml]; rfl) (a := b188) (own_ali l Z a0 hw b188 de kd h188 n0 f191 g_b188 SD VD A188 D188) own_pd4 rfl rfl rfl (hb hby at_176) rfl ?_
            intro v192 T192 L192 X192 hQ192
            obtain ⟨rfl, Nq192, Kq192, Al192⟩ := hQ192
            have N192 := Fr.app N176 Nq192
            have HH193 := HH190.keep Kq192 (sfS (Safe.exa hZ.alike A188 (by decide) (by decide)) sf0)
            obtain ⟨El192, Ml192, Dl192, Sl192⟩ := Al192
            show own_Ends p e below _ (T192.setTop (mkF m 179 #[.val (.int p1), .val (.int p2), .val (.int p3), .val (.int p4), .val (.int p5), .val (.ref b1), .val (.ref b9), .val (.ref b15), .val (.ref b22), .val (.ref b29), .val (.ref a42), .val (.int (p1 &&& (3 : Int32))), .val (.ref b22), .val (.int (1 : Int32)), .val (.ref b172), .val .null, .unset, .unset] [(.ref b188), (.ref b22), (.ref a42), (.ref b185), (.ref b185)]))
            have f194 := ((A185.ext E188).keep Kq192)
            refine own_special X192 hx hZ (y := (⟨"com/example/ledgerleaf/ledgerleaf/Element", "<init>", "(Ljava/lang/String;Ljava/lang/String;Ljava/util/List;)V"⟩ : MethodName)) rfl hown (hw _ (List.mem_of_getElem? (i := 74) rfl)) (hw _ (List.mem_of_getElem? (i := 75) rfl)) (hw _ (List.mem_of_getElem? (i := 73) rfl)) (hw _ (List.mem_of_getElem? (i := 76) rfl)) (by decide) rfl (by decide) (W := 1) (by decide) (by decide) (by decide) [(.ref a42), (.ref b22), (.ref b188)] [(.ref b185)] (by rw [hml]; rfl) (a := b185) (own_elR l Z a0 hw b185 a42 b22 b188 T192.heap n0 g_b185 f194 (fun L p => (((D185 L p).ext E188).keep Kq192 (ninS (Nat.ne_of_lt (Nat.lt_of_lt_of_le A185.lt (Nat.le_of_eq g188.symm))) nin0)))) own_pd11 rfl rfl rfl (hb hby at_179) rfl ?_
            intro v195 T195 L195 X195 hQ195
            obtain ⟨rfl, Nq195, Kq195, Ee195, Ft195⟩ := hQ195
            have N195 := Fr.app N192 Nq195
            have HH196 := HH193.keep Kq195 (sfS (Safe.exa hZ.alike f194 (by decide) (by decide)) sf0)
            show own_Ends p e below _ (T195.setTop (mkF m 182 #[.val (.int p1), .val (.int p2), .val (.int p3), .val (.int p4), .val (.int p5), .val (.ref b1), .val (.ref b9), .val (.ref b15), .val (.ref b22), .val (.ref b29), .val (.ref a42), .val (.int (p1 &&& (3 : Int32))), .val (.ref b22), .val (.int (1 : Int32)), .val (.ref b172), .val .null, .unset, .unset] [(.ref b185)]))
            refine own_astore X195 hx #[.val (.int p1), .val (.int p2), .val (.int p3), .val (.int p4), .val (.int p5), .val (.ref b1), .val (.ref b9), .val (.ref b15), .val (.ref b22), .val (.ref b29), .val (.ref a42), .val (.int (p1 &&& (3 : Int32))), .val (.ref b22), .val (.int (1 : Int32)), .val (.ref b172), .val (.ref b185), .unset, .unset] (hb hby at_182) rfl rfl rfl ?_
            refine own_aload X195 hx (hb hby at_184) rfl rfl rfl ?_
            refine own_aload X195 hx (hb hby at_186) rfl rfl rfl ?_
            have f197 := ((((El176.ext E185).ext E188).keep Kq192).keep Kq195)
            have f198 := ((f191.keep Kq192 (allS g_b188 all0)).keep Kq195 (allS g_b185 all0))
            have f199 := ((((Ml176.ext E185).ext E188).keep Kq192 (ninS (Nat.ne_of_lt (Nat.lt_of_lt_of_le (El176.ext E185).lt (Nat.le_of_eq g188.symm))) nin0)).keep Kq195 (ninS (Nat.ne_of_lt (Nat.lt_of_lt_of_le El176.lt (Nat.le_of_eq g185.symm))) nin0))
            have f200 := ((((Dl176.ext E185).ext E188).keep Kq192 (ninS (Nat.ne_of_lt (Nat.lt_of_lt_of_le (El176.ext E185).lt (Nat.le_of_eq g188.symm))) nin0)).keep Kq195 (ninS (Nat.ne_of_lt (Nat.lt_of_lt_of_le El176.lt (Nat.le_of_eq g185.symm))) nin0))
            have f201 := ((((Sl176.ext E185).ext E188).keep Kq192 (ninS (Nat.ne_of_lt (Nat.lt_of_lt_of_le (El176.ext E185).lt (Nat.le_of_eq g188.symm))) nin0)).keep Kq195 (ninS (Nat.ne_of_lt (Nat.lt_of_lt_of_le El176.lt (Nat.le_of_eq g185.symm))) nin0))
            refine own_virtual X195 hx hZ (y := (⟨"java/util/ArrayList", "add", "(Ljava/lang/Object;)Z"⟩ : MethodName)) (z := (⟨"java/util/ArrayList", "add", "(Ljava/lang/Object;)Z"⟩ : MethodName)) hown (hw _ (List.mem_of_getElem? (i := 94) rfl)) (hw _ (List.mem_of_getElem? (i := 95) rfl)) (notFace_of_selects (args := #[]) (mvT hZ (hw _ (List.mem_of_getElem? (i := 97) rfl)))) (hw _ (List.mem_of_getElem? (i := 97) rfl)) (hw _ (List.mem_of_getElem? (i := 96) rfl)) (hw _ (List.mem_of_getElem? (i := 49) rfl)) (hw _ (List.mem_of_getElem? (i := 98) rfl)) (by decide) rfl (by decide) (W := 0) (by decide) (by decide) (by decide) [(.ref b185)] [] (by rw [hml]; rfl) f197 (own_addE l Z a0 hw b172 b185 de kd (0 : Int32) T195.heap n0 f198 g_b172 SD VD ⟨f197, f199, f200, f201⟩ (Ins.of_exa Ee195 (hw _ (List.mem_of_getElem? (i := 124) rfl)))) own_pd13 rfl rfl rfl (hb hby at_188) rfl ?_
            intro v202 T202 L202 X202 hQ202
            obtain ⟨rfl, Nq202, Kq202, b202, k202, g_b202, sz_b202, Al202, V202, Ov202⟩ := hQ202
            have N202 := Fr.app N195 Nq202
            have HH203 := HH196.keep Kq202 (sfS (Safe.exa hZ.alike f197 (by decide) (by decide)) sf0)
            obtain ⟨El202, Ml202, Dl202, Sl202⟩ := Al202
            show own_Ends p e below _ (T202.setTop (mkF m 191 #[.val (.int p1), .val (.int p2), .val (.int p3), .val (.int p4), .val (.int p5), .val (.ref b1), .val (.ref b9), .val (.ref b15), .val (.ref b22), .val (.ref b29), .val (.ref a42), .val (.int (p1 &&& (3 : Int32))), .val (.ref b22), .val (.int (1 : Int32)), .val (.ref b172), .val (.ref b185), .unset, .unset] [(.int (1 : Int32))]))
            refine own_pop X202 hx (hb hby at_191) rfl rfl ?_
            refine own_new X202 hx hZ hown (hw _ (List.mem_of_getElem? (i := 71) rfl)) (hw _ (List.mem_of_getElem? (i := 72) rfl)) (hw _ (List.mem_of_getElem? (i := 73) rfl)) rfl (hb hby at_192) (by decide) (by decide) rfl ?_
            intro T204 h204 b204 X204 e204 g204 E204 A204 D204
            have f205 := (f198.keep Kq202 (allS g_b172 all0))
            have g_b204 : n0 ≤ b204 := Nat.le_trans (own_oz f205) (Nat.le_of_eq g204.symm)
            have HH206 := HH203.ext E204
            have Fb204_name : Fld Z h204 b204 "com/example/ledgerleaf/ledgerleaf/Element" "name" "Ljava/lang/String;" .null := D204 (Or.inr (hw _ (List.mem_of_getElem? (i := 84) rfl))) (ty := (.object "java/lang/String")) (by decide)
            have Fb204_text : Fld Z h204 b204 "com/example/ledgerleaf/ledgerleaf/Element" "text" "Ljava/lang/String;" .null := D204 (Or.inr (hw _ (List.mem_of_getElem? (i := 86) rfl))) (ty := (.object "java/lang/String")) (by decide)
            have Fb204_children : Fld Z h204 b204 "com/example/ledgerleaf/ledgerleaf/Element" "children" "Ljava/util/List;" .null := D204 (Or.inr (hw _ (List.mem_of_getElem? (i := 88) rfl))) (ty := (.object "java/util/List")) (by decide)
            refine own_dup X204 hx (hb hby at_195) rfl rfl ?_
            refine own_aload X204 hx (hb hby at_196) rfl rfl rfl ?_
            refine own_aload X204 hx (hb hby at_198) rfl rfl rfl ?_
            refine own_aload X204 hx (hb hby at_200) rfl rfl rfl ?_
            refine own_special X204 hx hZ (y := (⟨"com/example/ledgerleaf/ledgerleaf/Element", "<init>", "(Ljava/lang/String;Ljava/lang/String;Ljava/util/List;)V"⟩ : MethodName)) rfl hown (hw _ (List.mem_of_getElem? (i := 74) rfl)) (hw _ (List.mem_of_getElem? (i := 75) rfl)) (hw _ (List.mem_of_getElem? (i := 73) rfl)) (hw _ (List.mem_of_getElem? (i := 76) rfl)) (by decide) e204 (by decide) (W := 1) (by decide) (by decide) (by decide) [(.ref a42), (.ref b22), (.ref b172)] [(.ref b204)] (by rw [hml]; rfl) (a := b204) (own_elR l Z a0 hw b204 a42 b22 b172 h204 n0 g_b204 A204 D204) own_pd11 rfl rfl rfl (hb hby at_202) rfl ?_
            intro v207 T207 L207 X207 hQ207
            obtain ⟨rfl, Nq207, Kq207, Ee207, Ft207⟩ := hQ207
            have N207 := Fr.app N202 Nq207
            have HH208 := HH206.keep Kq207 (sfS (Safe.exa hZ.alike A204 (by decide) (by decide)) sf0)
            show own_Ends p e below _ (T207.setTop (mkF m 205 #[.val (.int p1), .val (.int p2), .val (.int p3), .val (.int p4), .val (.int p5), .val (.ref b1), .val (.ref b9), .val (.ref b15), .val (.ref b22), .val (.ref b29), .val (.ref a42), .val (.int (p1 &&& (3 : Int32))), .val (.ref b22), .val (.int (1 : Int32)), .val (.ref b172), .val (.ref b185), .unset, .unset] [(.ref b204)]))
            refine own_astore X207 hx #[.val (.int p1), .val (.int p2), .val (.int p3), .val (.int p4), .val (.int p5), .val (.ref b1), .val (.ref b9), .val (.ref b15), .val (.ref b22), .val (.ref b29), .val (.ref a42), .val (.int (p1 &&& (3 : Int32))), .val (.ref b22), .val (.int (1 : Int32)), .val (.ref b172), .val (.ref b185), .val (.ref b204), .unset] (hb hby at_205) rfl rfl rfl ?_
            refine own_iload X207 hx (hb hby at_207) rfl rfl ?_
            refine own_ifF X207 hx (hb hby at_209) rfl (feq hc89_44).1 ?_
            refine own_iconst X207 hx (1 : Int32) (hb hby at_212) (by decide) rfl ?_
            refine own_goto X207 hx (hb hby at_213) (by decide) rfl ?_
            refine own_istore X207 hx #[.val (.int p1), .val (.int p2), .val (.int p3), .val (.int p4), .val (.int p5), .val (.ref b1), .val (.ref b9), .val (.ref b15), .val (.ref b22), .val (.ref b29), .val (.ref a42), .val (.int (p1 &&& (3 : Int32))), .val (.ref b22), .val (.int (1 : Int32)), .val (.ref b172), .val (.ref b185), .val (.ref b204), .val (.int (1 : Int32))] (hb hby at_217) rfl rfl ?_
            refine own_aload X207 hx (hb hby at_219) rfl rfl rfl ?_
            refine own_virtual X207 hx hZ (y := (⟨"com/example/ledgerleaf/ledgerleaf/Element", "holdsText", "()Z"⟩ : MethodName)) (z := (⟨"com/example/ledgerleaf/ledgerleaf/Element", "holdsText", "()Z"⟩ : MethodName)) hown (hw _ (List.mem_of_getElem? (i := 89) rfl)) (hw _ (List.mem_of_getElem? (i := 90) rfl)) (notFace_of_selects (args := #[]) (mvT hZ (hw _ (List.mem_of_getElem? (i := 92) rfl)))) (hw _ (List.mem_of_getElem? (i := 92) rfl)) (hw _ (List.mem_of_getElem? (i := 91) rfl)) (hw _ (List.mem_of_getElem? (i := 73) rfl)) (hw _ (List.mem_of_getElem? (i := 93) rfl)) (by decide) rfl (by decide) (W := 0) (by decide) (by decide) (by decide) [] [] (by rw [hml]; rfl) Ee207 (own_holdR l Z a0 hw b204 b22 T207.heap n0 Ft207) own_pd12 rfl rfl rfl (hb hby at_221) rfl ?_
            intro v209 T209 L209 X209 hQ209
            obtain ⟨rfl, Nq209, hh209⟩ := hQ209
            have N209 := Fr.app N207 Nq209
            show own_Ends p e below _ (T209.setTop (mkF m 224 #[.val (.int p1), .val (.int p2), .val (.int p3), .val (.int p4), .val (.int p5), .val (.ref b1), .val (.ref b9), .val (.ref b15), .val (.ref b22), .val (.ref b29), .val (.ref a42), .val (.int (p1 &&& (3 : Int32))), .val (.ref b22), .val (.int (1 : Int32)), .val (.ref b172), .val (.ref b185), .val (.ref b204), .val (.int (1 : Int32))] [(.int (1 : Int32))]))
            refine own_iload X209 hx (hb hby at_224) rfl rfl ?_
            refine own_icmpT X209 hx (hb hby at_226) (by decide) rfl (by decide) ?_
            refine own_aload X209 hx (hb hby at_231) rfl rfl rfl ?_
            refine own_ifnullF X209 hx (hb hby at_233) rfl ?_
            refine own_aload X209 hx (hb hby at_236) rfl rfl rfl ?_
            have f210 := (((Ft195.keep Kq202 (ninS (Ne.symm (Nat.ne_of_lt (Nat.lt_of_lt_of_le El176.lt (Nat.le_of_eq g185.symm)))) nin0)).ext E204).keep Kq207 (ninS (Nat.ne_of_lt (Nat.lt_of_lt_of_le (Ee195.keep Kq202).lt (Nat.le_of_eq g204.symm))) nin0))
            have f212 := (((Ee195.keep Kq202).ext E204).keep Kq207)
            refine own_virtual X209 hx hZ (y := (⟨"com/example/ledgerleaf/ledgerleaf/Element", "holdsText", "()Z"⟩ : MethodName)) (z := (⟨"com/example/ledgerleaf/ledgerleaf/Element", "holdsText", "()Z"⟩ : MethodName)) hown (hw _ (List.mem_of_getElem? (i := 89) rfl)) (hw _ (List.mem_of_getElem? (i := 90) rfl)) (notFace_of_selects (args := #[]) (mvT hZ (hw _ (List.mem_of_getElem? (i := 92) rfl)))) (hw _ (List.mem_of_getElem? (i := 92) rfl)) (hw _ (List.mem_of_getElem? (i := 91) rfl)) (hw _ (List.mem_of_getElem? (i := 73) rfl)) (hw _ (List.mem_of_getElem? (i := 93) rfl)) (by decide) hh209 (by decide) (W := 0) (by decide) (by decide) (by decide) [] [] (by rw [hml]; rfl) f212 (own_holdR l Z a0 hw b185 b22 T207.heap n0 f210) own_pd12 rfl rfl rfl (hb hby at_238) rfl ?_
            intro v211 T211 L211 X211 hQ211
            obtain ⟨rfl, Nq211, hh211⟩ := hQ211
            have N211 := Fr.app N209 Nq211
            show own_Ends p e below _ (T211.setTop (mkF m 241 #[.val (.int p1), .val (.int p2), .val (.int p3), .val (.int p4), .val (.int p5), .val (.ref b1), .val (.ref b9), .val (.ref b15), .val (.ref b22), .val (.ref b29), .val (.ref a42), .val (.int (p1 &&& (3 : Int32))), .val (.ref b22), .val (.int (1 : Int32)), .val (.ref b172), .val (.ref b185), .val (.ref b204), .val (.int (1 : Int32))] [(.int (1 : Int32))]))
            refine own_iload X211 hx (hb hby at_241) rfl rfl ?_
            refine own_icmpT X211 hx (hb hby at_243) (by decide) rfl (by decide) ?_
            refine own_iconst X211 hx (1 : Int32) (hb hby at_248) (by decide) rfl ?_
            exact own_retNH X211 hx hZ hh211 HH208 hEL hlocks hret (by simp) (hb hby at_249) (by decide) (by decide) (by decide) ⟨rfl, N211⟩
    · refine own_aload X42 hx (hb hby at_102) rfl rfl rfl ?_
      refine own_goto X42 hx (hb hby at_104) (by decide) rfl ?_
      refine own_astore X42 hx #[.val (.int p1), .val (.int p2), .val (.int p3), .val (.int p4), .val (.int p5), .val (.ref b1), .val (.ref b9), .val (.ref b15), .val (.ref b22), .val (.ref b29), .val (.ref a42), .val (.int (p1 &&& (3 : Int32))), .val (.ref b29), .unset, .unset, .unset, .unset, .unset] (hb hby at_120) rfl rfl rfl ?_
      refine own_iload X42 hx (hb hby at_122) rfl rfl ?_
      refine own_iconst X42 hx (2 : Int32) (hb hby at_124) (by decide) rfl ?_
      refine own_iand X42 hx (hb hby at_125) rfl ?_
      refine own_if_ne X42 hx (hb hby at_126) (by decide) rfl rfl (fun hc126_213 => ?_) (fun hc126_213 => ?_)
      · refine own_iconst X42 hx (0 : Int32) (hb hby at_133) (by decide) rfl ?_
        refine own_istore X42 hx #[.val (.int p1), .val (.int p2), .val (.int p3), .val (.int p4), .val (.int p5), .val (.ref b1), .val (.ref b9), .val (.ref b15), .val (.ref b22), .val (.ref b29), .val (.ref a42), .val (.int (p1 &&& (3 : Int32))), .val (.ref b29), .val (.int (0 : Int32)), .unset, .unset, .unset, .unset] (hb hby at_134) rfl rfl ?_
        refine own_new X42 hx hZ hown (hw _ (List.mem_of_getElem? (i := 47) rfl)) (hw _ (List.mem_of_getElem? (i := 48) rfl)) (hw _ (List.mem_of_getElem? (i := 49) rfl)) rfl (hb hby at_136) (by decide) (by decide) rfl ?_
        intro T214 h214 b214 X214 e214 g214 E214 A214 D214
        have f215 := (f41.keep Kq42 all0)
        have g_b214 : n0 ≤ b214 := Nat.le_trans (own_oz f215) (Nat.le_of_eq g214.symm)
        have HH216 := HH43.ext E214
        have Fb214_modCount : Fld Z h214 b214 "java/util/AbstractList" "modCount" "I" (.int (0 : Int32)) := D214 (Or.inl (hw _ (List.mem_of_getElem? (i := 67) rfl))) (ty := .int) (by decide)
        have Fb214_elementData : Fld Z h214 b214 "java/util/ArrayList" "elementData" "[Ljava/lang/Object;" .null := D214 (Or.inl (hw _ (List.mem_of_getElem? (i := 70) rfl))) (ty := (.array (.object "java/lang/Object"))) (by decide)
        have Fb214_size : Fld Z h214 b214 "java/util/ArrayList" "size" "I" (.int (0 : Int32)) := D214 (Or.inl (hw _ (List.mem_of_getElem? (i := 102) rfl))) (ty := .int) (by decide)
        refine own_dup X214 hx (hb hby at_139) rfl rfl ?_
        have f217 := (f215.ext E214)
        refine own_special X214 hx hZ (y := (⟨"java/util/ArrayList", "<init>", "()V"⟩ : MethodName)) rfl hown (hw _ (List.mem_of_getElem? (i := 50) rfl)) (hw _ (List.mem_of_getElem? (i := 51) rfl)) (hw _ (List.mem_of_getElem? (i := 49) rfl)) (hw _ (List.mem_of_getElem? (i := 52) rfl)) (by decide) e214 (by decide) (W := 1) (by decide) (by decide) (by decide) [] [(.ref b214)] (by rw [hml]; rfl) (a := b214) (own_ali l Z a0 hw b214 de kd h214 n0 f217 g_b214 SD VD A214 D214) own_pd4 rfl rfl rfl (hb hby at_140) rfl ?_
        intro v218 T218 L218 X218 hQ218
        obtain ⟨rfl, Nq218, Kq218, Al218⟩ := hQ218
        have N218 := Fr.app N42 Nq218
        have HH219 := HH216.keep Kq218 (sfS (Safe.exa hZ.alike A214 (by decide) (by decide)) sf0)
        obtain ⟨El218, Ml218, Dl218, Sl218⟩ := Al218
        show own_Ends p e below _ (T218.setTop (mkF m 143 #[.val (.int p1), .val (.int p2), .val (.int p3), .val (.int p4), .val (.int p5), .val (.ref b1), .val (.ref b9), .val (.ref b15), .val (.ref b22), .val (.ref b29), .val (.ref a42), .val (.int (p1 &&& (3 : Int32))), .val (.ref b29), .val (.int (0 : Int32)), .unset, .unset, .unset, .unset] [(.ref b214)]))
        refine own_astore X218 hx #[.val (.int p1), .val (.int p2), .val (.int p3), .val (.int p4), .val (.int p5), .val (.ref b1), .val (.ref b9), .val (.ref b15), .val (.ref b22), .val (.ref b29), .val (.ref a42), .val (.int (p1 &&& (3 : Int32))), .val (.ref b29), .val (.int (0 : Int32)), .val (.ref b214), .unset, .unset, .unset] (hb hby at_143) rfl rfl rfl ?_
        refine own_aconst_null X218 hx (hb hby at_145) rfl ?_
        refine own_astore X218 hx #[.val (.int p1), .val (.int p2), .val (.int p3), .val (.int p4), .val (.int p5), .val (.ref b1), .val (.ref b9), .val (.ref b15), .val (.ref b22), .val (.ref b29), .val (.ref a42), .val (.int (p1 &&& (3 : Int32))), .val (.ref b29), .val (.int (0 : Int32)), .val (.ref b214), .val .null, .unset, .unset] (hb hby at_146) rfl rfl rfl ?_
        refine own_iload X218 hx (hb hby at_148) rfl rfl ?_
        refine own_iconst X218 hx (1 : Int32) (hb hby at_150) (by decide) rfl ?_
        refine own_iand X218 hx (hb hby at_151) rfl ?_
        refine own_if_eq X218 hx (hb hby at_152) (by decide) rfl rfl (fun hc152_220 => ?_) (fun hc152_220 => ?_)
        · refine own_new X218 hx hZ hown (hw _ (List.mem_of_getElem? (i := 71) rfl)) (hw _ (List.mem_of_getElem? (i := 72) rfl)) (hw _ (List.mem_of_getElem? (i := 73) rfl)) rfl (hb hby at_192) (by decide) (by decide) rfl ?_
          intro T221 h221 b221 X221 e221 g221 E221 A221 D221
          have f222 := (f217.keep Kq218 (allS g_b214 all0))
          have g_b221 : n0 ≤ b221 := Nat.le_trans (own_oz f222) (Nat.le_of_eq g221.symm)
          have HH223 := HH219.ext E221
          have Fb221_name : Fld Z h221 b221 "com/example/ledgerleaf/ledgerleaf/Element" "name" "Ljava/lang/String;" .null := D221 (Or.inr (hw _ (List.mem_of_getElem? (i := 84) rfl))) (ty := (.object "java/lang/String")) (by decide)
          have Fb221_text : Fld Z h221 b221 "com/example/ledgerleaf/ledgerleaf/Element" "text" "Ljava/lang/String;" .null := D221 (Or.inr (hw _ (List.mem_of_getElem? (i := 86) rfl))) (ty := (.object "java/lang/String")) (by decide)
          have Fb221_children : Fld Z h221 b221 "com/example/ledgerleaf/ledgerleaf/Element" "children" "Ljava/util/List;" .null := D221 (Or.inr (hw _ (List.mem_of_getElem? (i := 88) rfl))) (ty := (.object "java/util/List")) (by decide)
          refine own_dup X221 hx (hb hby at_195) rfl rfl ?_
          refine own_aload X221 hx (hb hby at_196) rfl rfl rfl ?_
          refine own_aload X221 hx (hb hby at_198) rfl rfl rfl ?_
          refine own_aload X221 hx (hb hby at_200) rfl rfl rfl ?_
          refine own_special X221 hx hZ (y := (⟨"com/example/ledgerleaf/ledgerleaf/Element", "<init>", "(Ljava/lang/String;Ljava/lang/String;Ljava/util/List;)V"⟩ : MethodName)) rfl hown (hw _ (List.mem_of_getElem? (i := 74) rfl)) (hw _ (List.mem_of_getElem? (i := 75) rfl)) (hw _ (List.mem_of_getElem? (i := 73) rfl)) (hw _ (List.mem_of_getElem? (i := 76) rfl)) (by decide) e221 (by decide) (W := 1) (by decide) (by decide) (by decide) [(.ref a42), (.ref b29), (.ref b214)] [(.ref b221)] (by rw [hml]; rfl) (a := b221) (own_elR l Z a0 hw b221 a42 b29 b214 h221 n0 g_b221 A221 D221) own_pd11 rfl rfl rfl (hb hby at_202) rfl ?_
          intro v224 T224 L224 X224 hQ224
          obtain ⟨rfl, Nq224, Kq224, Ee224, Ft224⟩ := hQ224
          have N224 := Fr.app N218 Nq224
          have HH225 := HH223.keep Kq224 (sfS (Safe.exa hZ.alike A221 (by decide) (by decide)) sf0)
          show own_Ends p e below _ (T224.setTop (mkF m 205 #[.val (.int p1), .val (.int p2), .val (.int p3), .val (.int p4), .val (.int p5), .val (.ref b1), .val (.ref b9), .val (.ref b15), .val (.ref b22), .val (.ref b29), .val (.ref a42), .val (.int (p1 &&& (3 : Int32))), .val (.ref b29), .val (.int (0 : Int32)), .val (.ref b214), .val .null, .unset, .unset] [(.ref b221)]))
          refine own_astore X224 hx #[.val (.int p1), .val (.int p2), .val (.int p3), .val (.int p4), .val (.int p5), .val (.ref b1), .val (.ref b9), .val (.ref b15), .val (.ref b22), .val (.ref b29), .val (.ref a42), .val (.int (p1 &&& (3 : Int32))), .val (.ref b29), .val (.int (0 : Int32)), .val (.ref b214), .val .null, .val (.ref b221), .unset] (hb hby at_205) rfl rfl rfl ?_
          refine own_iload X224 hx (hb hby at_207) rfl rfl ?_
          refine own_ifF X224 hx (hb hby at_209) rfl (feq hc89_44).1 ?_
          refine own_iconst X224 hx (1 : Int32) (hb hby at_212) (by decide) rfl ?_
          refine own_goto X224 hx (hb hby at_213) (by decide) rfl ?_
          refine own_istore X224 hx #[.val (.int p1), .val (.int p2), .val (.int p3), .val (.int p4), .val (.int p5), .val (.ref b1), .val (.ref b9), .val (.ref b15), .val (.ref b22), .val (.ref b29), .val (.ref a42), .val (.int (p1 &&& (3 : Int32))), .val (.ref b29), .val (.int (0 : Int32)), .val (.ref b214), .val .null, .val (.ref b221), .val (.int (1 : Int32))] (hb hby at_217) rfl rfl ?_
          refine own_aload X224 hx (hb hby at_219) rfl rfl rfl ?_
          refine own_virtual X224 hx hZ (y := (⟨"com/example/ledgerleaf/ledgerleaf/Element", "holdsText", "()Z"⟩ : MethodName)) (z := (⟨"com/example/ledgerleaf/ledgerleaf/Element", "holdsText", "()Z"⟩ : MethodName)) hown (hw _ (List.mem_of_getElem? (i := 89) rfl)) (hw _ (List.mem_of_getElem? (i := 90) rfl)) (notFace_of_selects (args := #[]) (mvT hZ (hw _ (List.mem_of_getElem? (i := 92) rfl)))) (hw _ (List.mem_of_getElem? (i := 92) rfl)) (hw _ (List.mem_of_getElem? (i := 91) rfl)) (hw _ (List.mem_of_getElem? (i := 73) rfl)) (hw _ (List.mem_of_getElem? (i := 93) rfl)) (by decide) rfl (by decide) (W := 0) (by decide) (by decide) (by decide) [] [] (by rw [hml]; rfl) Ee224 (own_holdR l Z a0 hw b221 b29 T224.heap n0 Ft224) own_pd12 rfl rfl rfl (hb hby at_221) rfl ?_
          intro v226 T226 L226 X226 hQ226
          obtain ⟨rfl, Nq226, hh226⟩ := hQ226
          have N226 := Fr.app N224 Nq226
          show own_Ends p e below _ (T226.setTop (mkF m 224 #[.val (.int p1), .val (.int p2), .val (.int p3), .val (.int p4), .val (.int p5), .val (.ref b1), .val (.ref b9), .val (.ref b15), .val (.ref b22), .val (.ref b29), .val (.ref a42), .val (.int (p1 &&& (3 : Int32))), .val (.ref b29), .val (.int (0 : Int32)), .val (.ref b214), .val .null, .val (.ref b221), .val (.int (1 : Int32))] [(.int (1 : Int32))]))
          refine own_iload X226 hx (hb hby at_224) rfl rfl ?_
          refine own_icmpT X226 hx (hb hby at_226) (by decide) rfl (by decide) ?_
          refine own_aload X226 hx (hb hby at_231) rfl rfl rfl ?_
          refine own_ifnullT X226 hx (hb hby at_233) (by decide) rfl ?_
          refine own_iconst X226 hx (1 : Int32) (hb hby at_248) (by decide) rfl ?_
          exact own_retNH X226 hx hZ hh226 HH225 hEL hlocks hret (by simp) (hb hby at_249) (by decide) (by decide) (by decide) ⟨rfl, N226⟩
        · refine own_new X218 hx hZ hown (hw _ (List.mem_of_getElem? (i := 71) rfl)) (hw _ (List.mem_of_getElem? (i := 72) rfl)) (hw _ (List.mem_of_getElem? (i := 73) rfl)) rfl (hb hby at_155) (by decide) (by decide) rfl ?_
          intro T227 h227 b227 X227 e227 g227 E227 A227 D227
          have f228 := (f217.keep Kq218 (allS g_b214 all0))
          have g_b227 : n0 ≤ b227 := Nat.le_trans (own_oz f228) (Nat.le_of_eq g227.symm)
          have HH229 := HH219.ext E227
          have Fb227_name : Fld Z h227 b227 "com/example/ledgerleaf/ledgerleaf/Element" "name" "Ljava/lang/String;" .null := D227 (Or.inr (hw _ (List.mem_of_getElem? (i := 84) rfl))) (ty := (.object "java/lang/String")) (by decide)
          have Fb227_text : Fld Z h227 b227 "com/example/ledgerleaf/ledgerleaf/Element" "text" "Ljava/lang/String;" .null := D227 (Or.inr (hw _ (List.mem_of_getElem? (i := 86) rfl))) (ty := (.object "java/lang/String")) (by decide)
          have Fb227_children : Fld Z h227 b227 "com/example/ledgerleaf/ledgerleaf/Element" "children" "Ljava/util/List;" .null := D227 (Or.inr (hw _ (List.mem_of_getElem? (i := 88) rfl))) (ty := (.object "java/util/List")) (by decide)
          refine own_dup X227 hx (hb hby at_158) rfl rfl ?_
          refine own_aload X227 hx (hb hby at_159) rfl rfl rfl ?_
          refine own_iload X227 hx (hb hby at_161) rfl rfl ?_
          refine own_ifT X227 hx (hb hby at_163) (by decide) rfl (by decide) ?_
          refine own_aconst_null X227 hx (hb hby at_171) rfl ?_
          refine own_new X227 hx hZ hown (hw _ (List.mem_of_getElem? (i := 47) rfl)) (hw _ (List.mem_of_getElem? (i := 48) rfl)) (hw _ (List.mem_of_getElem? (i := 49) rfl)) e227 (hb hby at_172) (by decide) (by decide) rfl ?_
          intro T230 h230 b230 X230 e230 g230 E230 A230 D230
          have f231 := (f228.ext E227)
          have g_b230 : n0 ≤ b230 := Nat.le_trans (own_oz f231) (Nat.le_of_eq g230.symm)
          have HH232 := HH229.ext E230
          have Fb230_modCount : Fld Z h230 b230 "java/util/AbstractList" "modCount" "I" (.int (0 : Int32)) := D230 (Or.inl (hw _ (List.mem_of_getElem? (i := 67) rfl))) (ty := .int) (by decide)
          have Fb230_elementData : Fld Z h230 b230 "java/util/ArrayList" "elementData" "[Ljava/lang/Object;" .null := D230 (Or.inl (hw _ (List.mem_of_getElem? (i := 70) rfl))) (ty := (.array (.object "java/lang/Object"))) (by decide)
          have Fb230_size : Fld Z h230 b230 "java/util/ArrayList" "size" "I" (.int (0 : Int32)) := D230 (Or.inl (hw _ (List.mem_of_getElem? (i := 102) rfl))) (ty := .int) (by decide)
          refine own_dup X230 hx (hb hby at_175) rfl rfl ?_
          have f233 := (f231.ext E230)
          refine own_special X230 hx hZ (y := (⟨"java/util/ArrayList", "<init>", "()V"⟩ : MethodName)) rfl hown (hw _ (List.mem_of_getElem? (i := 50) rfl)) (hw _ (List.mem_of_getElem? (i := 51) rfl)) (hw _ (List.mem_of_getElem? (i := 49) rfl)) (hw _ (List.mem_of_getElem? (i := 52) rfl)) (by decide) e230 (by decide) (W := 5) (by decide) (by decide) (by decide) [] [(.ref b230), .null, (.ref a42), (.ref b227), (.ref b227)] (by rw [hml]; rfl) (a := b230) (own_ali l Z a0 hw b230 de kd h230 n0 f233 g_b230 SD VD A230 D230) own_pd4 rfl rfl rfl (hb hby at_176) rfl ?_
          intro v234 T234 L234 X234 hQ234
          obtain ⟨rfl, Nq234, Kq234, Al234⟩ := hQ234
          have N234 := Fr.app N218 Nq234
          have HH235 := HH232.keep Kq234 (sfS (Safe.exa hZ.alike A230 (by decide) (by decide)) sf0)
          obtain ⟨El234, Ml234, Dl234, Sl234⟩ := Al234
          show own_Ends p e below _ (T234.setTop (mkF m 179 #[.val (.int p1), .val (.int p2), .val (.int p3), .val (.int p4), .val (.int p5), .val (.ref b1), .val (.ref b9), .val (.ref b15), .val (.ref b22), .val (.ref b29), .val (.ref a42), .val (.int (p1 &&& (3 : Int32))), .val (.ref b29), .val (.int (0 : Int32)), .val (.ref b214), .val .null, .unset, .unset] [(.ref b230), .null, (.ref a42), (.ref b227), (.ref b227)]))
          have f236 := ((A227.ext E230).keep Kq234)
          refine own_special X234 hx hZ (y := (⟨"com/example/ledgerleaf/ledgerleaf/Element", "<init>", "(Ljava/lang/String;Ljava/lang/String;Ljava/util/List;)V"⟩ : MethodName)) rfl hown (hw _ (List.mem_of_getElem? (i := 74) rfl)) (hw _ (List.mem_of_getElem? (i := 75) rfl)) (hw _ (List.mem_of_getElem? (i := 73) rfl)) (hw _ (List.mem_of_getElem? (i := 76) rfl)) (by decide) rfl (by decide) (W := 1) (by decide) (by decide) (by decide) [(.ref a42), .null, (.ref b230)] [(.ref b227)] (by rw [hml]; rfl) (a := b227) (own_elN l Z a0 hw b227 a42 b230 T234.heap n0 g_b227 f236 (fun L p => (((D227 L p).ext E230).keep Kq234 (ninS (Nat.ne_of_lt (Nat.lt_of_lt_of_le A227.lt (Nat.le_of_eq g230.symm))) nin0)))) own_pd11 rfl rfl rfl (hb hby at_179) rfl ?_
          intro v237 T237 L237 X237 hQ237
          obtain ⟨rfl, Nq237, Kq237, Ee237, Ft237⟩ := hQ237
          have N237 := Fr.app N234 Nq237
          have HH238 := HH235.keep Kq237 (sfS (Safe.exa hZ.alike f236 (by decide) (by decide)) sf0)
          show own_Ends p e below _ (T237.setTop (mkF m 182 #[.val (.int p1), .val (.int p2), .val (.int p3), .val (.int p4), .val (.int p5), .val (.ref b1), .val (.ref b9), .val (.ref b15), .val (.ref b22), .val (.ref b29), .val (.ref a42), .val (.int (p1 &&& (3 : Int32))), .val (.ref b29), .val (.int (0 : Int32)), .val (.ref b214), .val .null, .unset, .unset] [(.ref b227)]))
          refine own_astore X237 hx #[.val (.int p1), .val (.int p2), .val (.int p3), .val (.int p4), .val (.int p5), .val (.ref b1), .val (.ref b9), .val (.ref b15), .val (.ref b22), .val (.ref b29), .val (.ref a42), .val (.int (p1 &&& (3 : Int32))), .val (.ref b29), .val (.int (0 : Int32)), .val (.ref b214), .val (.ref b227), .unset, .unset] (hb hby at_182) rfl rfl rfl ?_
          refine own_aload X237 hx (hb hby at_184) rfl rfl rfl ?_
          refine own_aload X237 hx (hb hby at_186) rfl rfl rfl ?_
          have f239 := ((((El218.ext E227).ext E230).keep Kq234).keep Kq237)
          have f240 := ((f233.keep Kq234 (allS g_b230 all0)).keep Kq237 (allS g_b227 all0))
          have f241 := ((((Ml218.ext E227).ext E230).keep Kq234 (ninS (Nat.ne_of_lt (Nat.lt_of_lt_of_le (El218.ext E227).lt (Nat.le_of_eq g230.symm))) nin0)).keep Kq237 (ninS (Nat.ne_of_lt (Nat.lt_of_lt_of_le El218.lt (Nat.le_of_eq g227.symm))) nin0))
          have f242 := ((((Dl218.ext E227).ext E230).keep Kq234 (ninS (Nat.ne_of_lt (Nat.lt_of_lt_of_le (El218.ext E227).lt (Nat.le_of_eq g230.symm))) nin0)).keep Kq237 (ninS (Nat.ne_of_lt (Nat.lt_of_lt_of_le El218.lt (Nat.le_of_eq g227.symm))) nin0))
          have f243 := ((((Sl218.ext E227).ext E230).keep Kq234 (ninS (Nat.ne_of_lt (Nat.lt_of_lt_of_le (El218.ext E227).lt (Nat.le_of_eq g230.symm))) nin0)).keep Kq237 (ninS (Nat.ne_of_lt (Nat.lt_of_lt_of_le El218.lt (Nat.le_of_eq g227.symm))) nin0))
          refine own_virtual X237 hx hZ (y := (⟨"java/util/ArrayList", "add", "(Ljava/lang/Object;)Z"⟩ : MethodName)) (z := (⟨"java/util/ArrayList", "add", "(Ljava/lang/Object;)Z"⟩ : MethodName)) hown (hw _ (List.mem_of_getElem? (i := 94) rfl)) (hw _ (List.mem_of_getElem? (i := 95) rfl)) (notFace_of_selects (args := #[]) (mvT hZ (hw _ (List.mem_of_getElem? (i := 97) rfl)))) (hw _ (List.mem_of_getElem? (i := 97) rfl)) (hw _ (List.mem_of_getElem? (i := 96) rfl)) (hw _ (List.mem_of_getElem? (i := 49) rfl)) (hw _ (List.mem_of_getElem? (i := 98) rfl)) (by decide) rfl (by decide) (W := 0) (by decide) (by decide) (by decide) [(.ref b227)] [] (by rw [hml]; rfl) f239 (own_addE l Z a0 hw b214 b227 de kd (0 : Int32) T237.heap n0 f240 g_b214 SD VD ⟨f239, f241, f242, f243⟩ (Ins.of_exa Ee237 (hw _ (List.mem_of_getElem? (i := 124) rfl)))) own_pd13 rfl rfl rfl (hb hby at_188) rfl ?_
          intro v244 T244 L244 X244 hQ244
          obtain ⟨rfl, Nq244, Kq244, b244, k244, g_b244, sz_b244, Al244, V244, Ov244⟩ := hQ244
          have N244 := Fr.app N237 Nq244
          have HH245 := HH238.keep Kq244 (sfS (Safe.exa hZ.alike f239 (by decide) (by decide)) sf0)
          obtain ⟨El244, Ml244, Dl244, Sl244⟩ := Al244
          show own_Ends p e below _ (T244.setTop (mkF m 191 #[.val (.int p1), .val (.int p2), .val (.int p3), .val (.int p4), .val (.int p5), .val (.ref b1), .val (.ref b9), .val (.ref b15), .val (.ref b22), .val (.ref b29), .val (.ref a42), .val (.int (p1 &&& (3 : Int32))), .val (.ref b29), .val (.int (0 : Int32)), .val (.ref b214), .val (.ref b227), .unset, .unset] [(.int (1 : Int32))]))
          refine own_pop X244 hx (hb hby at_191) rfl rfl ?_
          refine own_new X244 hx hZ hown (hw _ (List.mem_of_getElem? (i := 71) rfl)) (hw _ (List.mem_of_getElem? (i := 72) rfl)) (hw _ (List.mem_of_getElem? (i := 73) rfl)) rfl (hb hby at_192) (by decide) (by decide) rfl ?_
          intro T246 h246 b246 X246 e246 g246 E246 A246 D246
          have f247 := (f240.keep Kq244 (allS g_b214 all0))
          have g_b246 : n0 ≤ b246 := Nat.le_trans (own_oz f247) (Nat.le_of_eq g246.symm)
          have HH248 := HH245.ext E246
          have Fb246_name : Fld Z h246 b246 "com/example/ledgerleaf/ledgerleaf/Element" "name" "Ljava/lang/String;" .null := D246 (Or.inr (hw _ (List.mem_of_getElem? (i := 84) rfl))) (ty := (.object "java/lang/String")) (by decide)
          have Fb246_text : Fld Z h246 b246 "com/example/ledgerleaf/ledgerleaf/Element" "text" "Ljava/lang/String;" .null := D246 (Or.inr (hw _ (List.mem_of_getElem? (i := 86) rfl))) (ty := (.object "java/lang/String")) (by decide)
          have Fb246_children : Fld Z h246 b246 "com/example/ledgerleaf/ledgerleaf/Element" "children" "Ljava/util/List;" .null := D246 (Or.inr (hw _ (List.mem_of_getElem? (i := 88) rfl))) (ty := (.object "java/util/List")) (by decide)
          refine own_dup X246 hx (hb hby at_195) rfl rfl ?_
          refine own_aload X246 hx (hb hby at_196) rfl rfl rfl ?_
          refine own_aload X246 hx (hb hby at_198) rfl rfl rfl ?_
          refine own_aload X246 hx (hb hby at_200) rfl rfl rfl ?_
          refine own_special X246 hx hZ (y := (⟨"com/example/ledgerleaf/ledgerleaf/Element", "<init>", "(Ljava/lang/String;Ljava/lang/String;Ljava/util/List;)V"⟩ : MethodName)) rfl hown (hw _ (List.mem_of_getElem? (i := 74) rfl)) (hw _ (List.mem_of_getElem? (i := 75) rfl)) (hw _ (List.mem_of_getElem? (i := 73) rfl)) (hw _ (List.mem_of_getElem? (i := 76) rfl)) (by decide) e246 (by decide) (W := 1) (by decide) (by decide) (by decide) [(.ref a42), (.ref b29), (.ref b214)] [(.ref b246)] (by rw [hml]; rfl) (a := b246) (own_elR l Z a0 hw b246 a42 b29 b214 h246 n0 g_b246 A246 D246) own_pd11 rfl rfl rfl (hb hby at_202) rfl ?_
          intro v249 T249 L249 X249 hQ249
          obtain ⟨rfl, Nq249, Kq249, Ee249, Ft249⟩ := hQ249
          have N249 := Fr.app N244 Nq249
          have HH250 := HH248.keep Kq249 (sfS (Safe.exa hZ.alike A246 (by decide) (by decide)) sf0)
          show own_Ends p e below _ (T249.setTop (mkF m 205 #[.val (.int p1), .val (.int p2), .val (.int p3), .val (.int p4), .val (.int p5), .val (.ref b1), .val (.ref b9), .val (.ref b15), .val (.ref b22), .val (.ref b29), .val (.ref a42), .val (.int (p1 &&& (3 : Int32))), .val (.ref b29), .val (.int (0 : Int32)), .val (.ref b214), .val (.ref b227), .unset, .unset] [(.ref b246)]))
          refine own_astore X249 hx #[.val (.int p1), .val (.int p2), .val (.int p3), .val (.int p4), .val (.int p5), .val (.ref b1), .val (.ref b9), .val (.ref b15), .val (.ref b22), .val (.ref b29), .val (.ref a42), .val (.int (p1 &&& (3 : Int32))), .val (.ref b29), .val (.int (0 : Int32)), .val (.ref b214), .val (.ref b227), .val (.ref b246), .unset] (hb hby at_205) rfl rfl rfl ?_
          refine own_iload X249 hx (hb hby at_207) rfl rfl ?_
          refine own_ifF X249 hx (hb hby at_209) rfl (feq hc89_44).1 ?_
          refine own_iconst X249 hx (1 : Int32) (hb hby at_212) (by decide) rfl ?_
          refine own_goto X249 hx (hb hby at_213) (by decide) rfl ?_
          refine own_istore X249 hx #[.val (.int p1), .val (.int p2), .val (.int p3), .val (.int p4), .val (.int p5), .val (.ref b1), .val (.ref b9), .val (.ref b15), .val (.ref b22), .val (.ref b29), .val (.ref a42), .val (.int (p1 &&& (3 : Int32))), .val (.ref b29), .val (.int (0 : Int32)), .val (.ref b214), .val (.ref b227), .val (.ref b246), .val (.int (1 : Int32))] (hb hby at_217) rfl rfl ?_
          refine own_aload X249 hx (hb hby at_219) rfl rfl rfl ?_
          refine own_virtual X249 hx hZ (y := (⟨"com/example/ledgerleaf/ledgerleaf/Element", "holdsText", "()Z"⟩ : MethodName)) (z := (⟨"com/example/ledgerleaf/ledgerleaf/Element", "holdsText", "()Z"⟩ : MethodName)) hown (hw _ (List.mem_of_getElem? (i := 89) rfl)) (hw _ (List.mem_of_getElem? (i := 90) rfl)) (notFace_of_selects (args := #[]) (mvT hZ (hw _ (List.mem_of_getElem? (i := 92) rfl)))) (hw _ (List.mem_of_getElem? (i := 92) rfl)) (hw _ (List.mem_of_getElem? (i := 91) rfl)) (hw _ (List.mem_of_getElem? (i := 73) rfl)) (hw _ (List.mem_of_getElem? (i := 93) rfl)) (by decide) rfl (by decide) (W := 0) (by decide) (by decide) (by decide) [] [] (by rw [hml]; rfl) Ee249 (own_holdR l Z a0 hw b246 b29 T249.heap n0 Ft249) own_pd12 rfl rfl rfl (hb hby at_221) rfl ?_
          intro v251 T251 L251 X251 hQ251
          obtain ⟨rfl, Nq251, hh251⟩ := hQ251
          have N251 := Fr.app N249 Nq251
          show own_Ends p e below _ (T251.setTop (mkF m 224 #[.val (.int p1), .val (.int p2), .val (.int p3), .val (.int p4), .val (.int p5), .val (.ref b1), .val (.ref b9), .val (.ref b15), .val (.ref b22), .val (.ref b29), .val (.ref a42), .val (.int (p1 &&& (3 : Int32))), .val (.ref b29), .val (.int (0 : Int32)), .val (.ref b214), .val (.ref b227), .val (.ref b246), .val (.int (1 : Int32))] [(.int (1 : Int32))]))
          refine own_iload X251 hx (hb hby at_224) rfl rfl ?_
          refine own_icmpT X251 hx (hb hby at_226) (by decide) rfl (by decide) ?_
          refine own_aload X251 hx (hb hby at_231) rfl rfl rfl ?_
          refine own_ifnullF X251 hx (hb hby at_233) rfl ?_
          refine own_aload X251 hx (hb hby at_236) rfl rfl rfl ?_
          have f252 := (((Ft237.keep Kq244 (ninS (Ne.symm (Nat.ne_of_lt (Nat.lt_of_lt_of_le El218.lt (Nat.le_of_eq g227.symm)))) nin0)).ext E246).keep Kq249 (ninS (Nat.ne_of_lt (Nat.lt_of_lt_of_le (Ee237.keep Kq244).lt (Nat.le_of_eq g246.symm))) nin0))
          have f254 := (((Ee237.keep Kq244).ext E246).keep Kq249)
          refine own_virtual X251 hx hZ (y := (⟨"com/example/ledgerleaf/ledgerleaf/Element", "holdsText", "()Z"⟩ : MethodName)) (z := (⟨"com/example/ledgerleaf/ledgerleaf/Element", "holdsText", "()Z"⟩ : MethodName)) hown (hw _ (List.mem_of_getElem? (i := 89) rfl)) (hw _ (List.mem_of_getElem? (i := 90) rfl)) (notFace_of_selects (args := #[]) (mvT hZ (hw _ (List.mem_of_getElem? (i := 92) rfl)))) (hw _ (List.mem_of_getElem? (i := 92) rfl)) (hw _ (List.mem_of_getElem? (i := 91) rfl)) (hw _ (List.mem_of_getElem? (i := 73) rfl)) (hw _ (List.mem_of_getElem? (i := 93) rfl)) (by decide) hh251 (by decide) (W := 0) (by decide) (by decide) (by decide) [] [] (by rw [hml]; rfl) f254 (own_holdN l Z a0 hw b227 T249.heap n0 f252) own_pd12 rfl rfl rfl (hb hby at_238) rfl ?_
          intro v253 T253 L253 X253 hQ253
          obtain ⟨rfl, Nq253, hh253⟩ := hQ253
          have N253 := Fr.app N251 Nq253
          show own_Ends p e below _ (T253.setTop (mkF m 241 #[.val (.int p1), .val (.int p2), .val (.int p3), .val (.int p4), .val (.int p5), .val (.ref b1), .val (.ref b9), .val (.ref b15), .val (.ref b22), .val (.ref b29), .val (.ref a42), .val (.int (p1 &&& (3 : Int32))), .val (.ref b29), .val (.int (0 : Int32)), .val (.ref b214), .val (.ref b227), .val (.ref b246), .val (.int (1 : Int32))] [(.int (0 : Int32))]))
          refine own_iload X253 hx (hb hby at_241) rfl rfl ?_
          refine own_icmpT X253 hx (hb hby at_243) (by decide) rfl (by decide) ?_
          refine own_iconst X253 hx (1 : Int32) (hb hby at_248) (by decide) rfl ?_
          exact own_retNH X253 hx hZ hh253 HH250 hEL hlocks hret (by simp) (hb hby at_249) (by decide) (by decide) (by decide) ⟨rfl, N253⟩
      · refine own_iconst X42 hx (1 : Int32) (hb hby at_129) (by decide) rfl ?_
        refine own_goto X42 hx (hb hby at_130) (by decide) rfl ?_
        refine own_istore X42 hx #[.val (.int p1), .val (.int p2), .val (.int p3), .val (.int p4), .val (.int p5), .val (.ref b1), .val (.ref b9), .val (.ref b15), .val (.ref b22), .val (.ref b29), .val (.ref a42), .val (.int (p1 &&& (3 : Int32))), .val (.ref b29), .val (.int (1 : Int32)), .unset, .unset, .unset, .unset] (hb hby at_134) rfl rfl ?_
        refine own_new X42 hx hZ hown (hw _ (List.mem_of_getElem? (i := 47) rfl)) (hw _ (List.mem_of_getElem? (i := 48) rfl)) (hw _ (List.mem_of_getElem? (i := 49) rfl)) rfl (hb hby at_136) (by decide) (by decide) rfl ?_
        intro T255 h255 b255 X255 e255 g255 E255 A255 D255
        have f256 := (f41.keep Kq42 all0)
        have g_b255 : n0 ≤ b255 := Nat.le_trans (own_oz f256) (Nat.le_of_eq g255.symm)
        have HH257 := HH43.ext E255
        have Fb255_modCount : Fld Z h255 b255 "java/util/AbstractList" "modCount" "I" (.int (0 : Int32)) := D255 (Or.inl (hw _ (List.mem_of_getElem? (i := 67) rfl))) (ty := .int) (by decide)
        have Fb255_elementData : Fld Z h255 b255 "java/util/ArrayList" "elementData" "[Ljava/lang/Object;" .null := D255 (Or.inl (hw _ (List.mem_of_getElem? (i := 70) rfl))) (ty := (.array (.object "java/lang/Object"))) (by decide)
        have Fb255_size : Fld Z h255 b255 "java/util/ArrayList" "size" "I" (.int (0 : Int32)) := D255 (Or.inl (hw _ (List.mem_of_getElem? (i := 102) rfl))) (ty := .int) (by decide)
        refine own_dup X255 hx (hb hby at_139) rfl rfl ?_
        have f258 := (f256.ext E255)
        refine own_special X255 hx hZ (y := (⟨"java/util/ArrayList", "<init>", "()V"⟩ : MethodName)) rfl hown (hw _ (List.mem_of_getElem? (i := 50) rfl)) (hw _ (List.mem_of_getElem? (i := 51) rfl)) (hw _ (List.mem_of_getElem? (i := 49) rfl)) (hw _ (List.mem_of_getElem? (i := 52) rfl)) (by decide) e255 (by decide) (W := 1) (by decide) (by decide) (by decide) [] [(.ref b255)] (by rw [hml]; rfl) (a := b255) (own_ali l Z a0 hw b255 de kd h255 n0 f258 g_b255 SD VD A255 D255) own_pd4 rfl rfl rfl (hb hby at_140) rfl ?_
        intro v259 T259 L259 X259 hQ259
        obtain ⟨rfl, Nq259, Kq259, Al259⟩ := hQ259
        have N259 := Fr.app N42 Nq259
        have HH260 := HH257.keep Kq259 (sfS (Safe.exa hZ.alike A255 (by decide) (by decide)) sf0)
        obtain ⟨El259, Ml259, Dl259, Sl259⟩ := Al259
        show own_Ends p e below _ (T259.setTop (mkF m 143 #[.val (.int p1), .val (.int p2), .val (.int p3), .val (.int p4), .val (.int p5), .val (.ref b1), .val (.ref b9), .val (.ref b15), .val (.ref b22), .val (.ref b29), .val (.ref a42), .val (.int (p1 &&& (3 : Int32))), .val (.ref b29), .val (.int (1 : Int32)), .unset, .unset, .unset, .unset] [(.ref b255)]))
        refine own_astore X259 hx #[.val (.int p1), .val (.int p2), .val (.int p3), .val (.int p4), .val (.int p5), .val (.ref b1), .val (.ref b9), .val (.ref b15), .val (.ref b22), .val (.ref b29), .val (.ref a42), .val (.int (p1 &&& (3 : Int32))), .val (.ref b29), .val (.int (1 : Int32)), .val (.ref b255), .unset, .unset, .unset] (hb hby at_143) rfl rfl rfl ?_
        refine own_aconst_null X259 hx (hb hby at_145) rfl ?_
        refine own_astore X259 hx #[.val (.int p1), .val (.int p2), .val (.int p3), .val (.int p4), .val (.int p5), .val (.ref b1), .val (.ref b9), .val (.ref b15), .val (.ref b22), .val (.ref b29), .val (.ref a42), .val (.int (p1 &&& (3 : Int32))), .val (.ref b29), .val (.int (1 : Int32)), .val (.ref b255), .val .null, .unset, .unset] (hb hby at_146) rfl rfl rfl ?_
        refine own_iload X259 hx (hb hby at_148) rfl rfl ?_
        refine own_iconst X259 hx (1 : Int32) (hb hby at_150) (by decide) rfl ?_
        refine own_iand X259 hx (hb hby at_151) rfl ?_
        refine own_if_eq X259 hx (hb hby at_152) (by decide) rfl rfl (fun hc152_261 => ?_) (fun hc152_261 => ?_)
        · refine own_new X259 hx hZ hown (hw _ (List.mem_of_getElem? (i := 71) rfl)) (hw _ (List.mem_of_getElem? (i := 72) rfl)) (hw _ (List.mem_of_getElem? (i := 73) rfl)) rfl (hb hby at_192) (by decide) (by decide) rfl ?_
          intro T262 h262 b262 X262 e262 g262 E262 A262 D262
          have f263 := (f258.keep Kq259 (allS g_b255 all0))
          have g_b262 : n0 ≤ b262 := Nat.le_trans (own_oz f263) (Nat.le_of_eq g262.symm)
          have HH264 := HH260.ext E262
          have Fb262_name : Fld Z h262 b262 "com/example/ledgerleaf/ledgerleaf/Element" "name" "Ljava/lang/String;" .null := D262 (Or.inr (hw _ (List.mem_of_getElem? (i := 84) rfl))) (ty := (.object "java/lang/String")) (by decide)
          have Fb262_text : Fld Z h262 b262 "com/example/ledgerleaf/ledgerleaf/Element" "text" "Ljava/lang/String;" .null := D262 (Or.inr (hw _ (List.mem_of_getElem? (i := 86) rfl))) (ty := (.object "java/lang/String")) (by decide)
          have Fb262_children : Fld Z h262 b262 "com/example/ledgerleaf/ledgerleaf/Element" "children" "Ljava/util/List;" .null := D262 (Or.inr (hw _ (List.mem_of_getElem? (i := 88) rfl))) (ty := (.object "java/util/List")) (by decide)
          refine own_dup X262 hx (hb hby at_195) rfl rfl ?_
          refine own_aload X262 hx (hb hby at_196) rfl rfl rfl ?_
          refine own_aload X262 hx (hb hby at_198) rfl rfl rfl ?_
          refine own_aload X262 hx (hb hby at_200) rfl rfl rfl ?_
          refine own_special X262 hx hZ (y := (⟨"com/example/ledgerleaf/ledgerleaf/Element", "<init>", "(Ljava/lang/String;Ljava/lang/String;Ljava/util/List;)V"⟩ : MethodName)) rfl hown (hw _ (List.mem_of_getElem? (i := 74) rfl)) (hw _ (List.mem_of_getElem? (i := 75) rfl)) (hw _ (List.mem_of_getElem? (i := 73) rfl)) (hw _ (List.mem_of_getElem? (i := 76) rfl)) (by decide) e262 (by decide) (W := 1) (by decide) (by decide) (by decide) [(.ref a42), (.ref b29), (.ref b255)] [(.ref b262)] (by rw [hml]; rfl) (a := b262) (own_elR l Z a0 hw b262 a42 b29 b255 h262 n0 g_b262 A262 D262) own_pd11 rfl rfl rfl (hb hby at_202) rfl ?_
          intro v265 T265 L265 X265 hQ265
          obtain ⟨rfl, Nq265, Kq265, Ee265, Ft265⟩ := hQ265
          have N265 := Fr.app N259 Nq265
          have HH266 := HH264.keep Kq265 (sfS (Safe.exa hZ.alike A262 (by decide) (by decide)) sf0)
          show own_Ends p e below _ (T265.setTop (mkF m 205 #[.val (.int p1), .val (.int p2), .val (.int p3), .val (.int p4), .val (.int p5), .val (.ref b1), .val (.ref b9), .val (.ref b15), .val (.ref b22), .val (.ref b29), .val (.ref a42), .val (.int (p1 &&& (3 : Int32))), .val (.ref b29), .val (.int (1 : Int32)), .val (.ref b255), .val .null, .unset, .unset] [(.ref b262)]))
          refine own_astore X265 hx #[.val (.int p1), .val (.int p2), .val (.int p3), .val (.int p4), .val (.int p5), .val (.ref b1), .val (.ref b9), .val (.ref b15), .val (.ref b22), .val (.ref b29), .val (.ref a42), .val (.int (p1 &&& (3 : Int32))), .val (.ref b29), .val (.int (1 : Int32)), .val (.ref b255), .val .null, .val (.ref b262), .unset] (hb hby at_205) rfl rfl rfl ?_
          refine own_iload X265 hx (hb hby at_207) rfl rfl ?_
          refine own_ifF X265 hx (hb hby at_209) rfl (feq hc89_44).1 ?_
          refine own_iconst X265 hx (1 : Int32) (hb hby at_212) (by decide) rfl ?_
          refine own_goto X265 hx (hb hby at_213) (by decide) rfl ?_
          refine own_istore X265 hx #[.val (.int p1), .val (.int p2), .val (.int p3), .val (.int p4), .val (.int p5), .val (.ref b1), .val (.ref b9), .val (.ref b15), .val (.ref b22), .val (.ref b29), .val (.ref a42), .val (.int (p1 &&& (3 : Int32))), .val (.ref b29), .val (.int (1 : Int32)), .val (.ref b255), .val .null, .val (.ref b262), .val (.int (1 : Int32))] (hb hby at_217) rfl rfl ?_
          refine own_aload X265 hx (hb hby at_219) rfl rfl rfl ?_
          refine own_virtual X265 hx hZ (y := (⟨"com/example/ledgerleaf/ledgerleaf/Element", "holdsText", "()Z"⟩ : MethodName)) (z := (⟨"com/example/ledgerleaf/ledgerleaf/Element", "holdsText", "()Z"⟩ : MethodName)) hown (hw _ (List.mem_of_getElem? (i := 89) rfl)) (hw _ (List.mem_of_getElem? (i := 90) rfl)) (notFace_of_selects (args := #[]) (mvT hZ (hw _ (List.mem_of_getElem? (i := 92) rfl)))) (hw _ (List.mem_of_getElem? (i := 92) rfl)) (hw _ (List.mem_of_getElem? (i := 91) rfl)) (hw _ (List.mem_of_getElem? (i := 73) rfl)) (hw _ (List.mem_of_getElem? (i := 93) rfl)) (by decide) rfl (by decide) (W := 0) (by decide) (by decide) (by decide) [] [] (by rw [hml]; rfl) Ee265 (own_holdR l Z a0 hw b262 b29 T265.heap n0 Ft265) own_pd12 rfl rfl rfl (hb hby at_221) rfl ?_
          intro v267 T267 L267 X267 hQ267
          obtain ⟨rfl, Nq267, hh267⟩ := hQ267
          have N267 := Fr.app N265 Nq267
          show own_Ends p e below _ (T267.setTop (mkF m 224 #[.val (.int p1), .val (.int p2), .val (.int p3), .val (.int p4), .val (.int p5), .val (.ref b1), .val (.ref b9), .val (.ref b15), .val (.ref b22), .val (.ref b29), .val (.ref a42), .val (.int (p1 &&& (3 : Int32))), .val (.ref b29), .val (.int (1 : Int32)), .val (.ref b255), .val .null, .val (.ref b262), .val (.int (1 : Int32))] [(.int (1 : Int32))]))
          refine own_iload X267 hx (hb hby at_224) rfl rfl ?_
          refine own_icmpT X267 hx (hb hby at_226) (by decide) rfl (by decide) ?_
          refine own_aload X267 hx (hb hby at_231) rfl rfl rfl ?_
          refine own_ifnullT X267 hx (hb hby at_233) (by decide) rfl ?_
          refine own_iconst X267 hx (1 : Int32) (hb hby at_248) (by decide) rfl ?_
          exact own_retNH X267 hx hZ hh267 HH266 hEL hlocks hret (by simp) (hb hby at_249) (by decide) (by decide) (by decide) ⟨rfl, N267⟩
        · refine own_new X259 hx hZ hown (hw _ (List.mem_of_getElem? (i := 71) rfl)) (hw _ (List.mem_of_getElem? (i := 72) rfl)) (hw _ (List.mem_of_getElem? (i := 73) rfl)) rfl (hb hby at_155) (by decide) (by decide) rfl ?_
          intro T268 h268 b268 X268 e268 g268 E268 A268 D268
          have f269 := (f258.keep Kq259 (allS g_b255 all0))
          have g_b268 : n0 ≤ b268 := Nat.le_trans (own_oz f269) (Nat.le_of_eq g268.symm)
          have HH270 := HH260.ext E268
          have Fb268_name : Fld Z h268 b268 "com/example/ledgerleaf/ledgerleaf/Element" "name" "Ljava/lang/String;" .null := D268 (Or.inr (hw _ (List.mem_of_getElem? (i := 84) rfl))) (ty := (.object "java/lang/String")) (by decide)
          have Fb268_text : Fld Z h268 b268 "com/example/ledgerleaf/ledgerleaf/Element" "text" "Ljava/lang/String;" .null := D268 (Or.inr (hw _ (List.mem_of_getElem? (i := 86) rfl))) (ty := (.object "java/lang/String")) (by decide)
          have Fb268_children : Fld Z h268 b268 "com/example/ledgerleaf/ledgerleaf/Element" "children" "Ljava/util/List;" .null := D268 (Or.inr (hw _ (List.mem_of_getElem? (i := 88) rfl))) (ty := (.object "java/util/List")) (by decide)
          refine own_dup X268 hx (hb hby at_158) rfl rfl ?_
          refine own_aload X268 hx (hb hby at_159) rfl rfl rfl ?_
          refine own_iload X268 hx (hb hby at_161) rfl rfl ?_
          refine own_ifF X268 hx (hb hby at_163) rfl (by decide) ?_
          refine own_aload X268 hx (hb hby at_166) rfl rfl rfl ?_
          refine own_goto X268 hx (hb hby at_168) (by decide) rfl ?_
          refine own_new X268 hx hZ hown (hw _ (List.mem_of_getElem? (i := 47) rfl)) (hw _ (List.mem_of_getElem? (i := 48) rfl)) (hw _ (List.mem_of_getElem? (i := 49) rfl)) e268 (hb hby at_172) (by decide) (by decide) rfl ?_
          intro T271 h271 b271 X271 e271 g271 E271 A271 D271
          have f272 := (f269.ext E268)
          have g_b271 : n0 ≤ b271 := Nat.le_trans (own_oz f272) (Nat.le_of_eq g271.symm)
          have HH273 := HH270.ext E271
          have Fb271_modCount : Fld Z h271 b271 "java/util/AbstractList" "modCount" "I" (.int (0 : Int32)) := D271 (Or.inl (hw _ (List.mem_of_getElem? (i := 67) rfl))) (ty := .int) (by decide)
          have Fb271_elementData : Fld Z h271 b271 "java/util/ArrayList" "elementData" "[Ljava/lang/Object;" .null := D271 (Or.inl (hw _ (List.mem_of_getElem? (i := 70) rfl))) (ty := (.array (.object "java/lang/Object"))) (by decide)
          have Fb271_size : Fld Z h271 b271 "java/util/ArrayList" "size" "I" (.int (0 : Int32)) := D271 (Or.inl (hw _ (List.mem_of_getElem? (i := 102) rfl))) (ty := .int) (by decide)
          refine own_dup X271 hx (hb hby at_175) rfl rfl ?_
          have f274 := (f272.ext E271)
          refine own_special X271 hx hZ (y := (⟨"java/util/ArrayList", "<init>", "()V"⟩ : MethodName)) rfl hown (hw _ (List.mem_of_getElem? (i := 50) rfl)) (hw _ (List.mem_of_getElem? (i := 51) rfl)) (hw _ (List.mem_of_getElem? (i := 49) rfl)) (hw _ (List.mem_of_getElem? (i := 52) rfl)) (by decide) e271 (by decide) (W := 5) (by decide) (by decide) (by decide) [] [(.ref b271), (.ref b22), (.ref a42), (.ref b268), (.ref b268)] (by rw [hml]; rfl) (a := b271) (own_ali l Z a0 hw b271 de kd h271 n0 f274 g_b271 SD VD A271 D271) own_pd4 rfl rfl rfl (hb hby at_176) rfl ?_
          intro v275 T275 L275 X275 hQ275
          obtain ⟨rfl, Nq275, Kq275, Al275⟩ := hQ275
          have N275 := Fr.app N259 Nq275
          have HH276 := HH273.keep Kq275 (sfS (Safe.exa hZ.alike A271 (by decide) (by decide)) sf0)
          obtain ⟨El275, Ml275, Dl275, Sl275⟩ := Al275
          show own_Ends p e below _ (T275.setTop (mkF m 179 #[.val (.int p1), .val (.int p2), .val (.int p3), .val (.int p4), .val (.int p5), .val (.ref b1), .val (.ref b9), .val (.ref b15), .val (.ref b22), .val (.ref b29), .val (.ref a42), .val (.int (p1 &&& (3 : Int32))), .val (.ref b29), .val (.int (1 : Int32)), .val (.ref b255), .val .null, .unset, .unset] [(.ref b271), (.ref b22), (.ref a42), (.ref b268), (.ref b268)]))
          have f277 := ((A268.ext E271).keep Kq275)
          refine own_special X275 hx hZ (y := (⟨"com/example/ledgerleaf/ledgerleaf/Element", "<init>", "(Ljava/lang/String;Ljava/lang/String;Ljava/util/List;)V"⟩ : MethodName)) rfl hown (hw _ (List.mem_of_getElem? (i := 74) rfl)) (hw _ (List.mem_of_getElem? (i := 75) rfl)) (hw _ (List.mem_of_getElem? (i := 73) rfl)) (hw _ (List.mem_of_getElem? (i := 76) rfl)) (by decide) rfl (by decide) (W := 1) (by decide) (by decide) (by decide) [(.ref a42), (.ref b22), (.ref b271)] [(.ref b268)] (by rw [hml]; rfl) (a := b268) (own_elR l Z a0 hw b268 a42 b22 b271 T275.heap n0 g_b268 f277 (fun L p => (((D268 L p).ext E271).keep Kq275 (ninS (Nat.ne_of_lt (Nat.lt_of_lt_of_le A268.lt (Nat.le_of_eq g271.symm))) nin0)))) own_pd11 rfl rfl rfl (hb hby at_179) rfl ?_
          intro v278 T278 L278 X278 hQ278
          obtain ⟨rfl, Nq278, Kq278, Ee278, Ft278⟩ := hQ278
          have N278 := Fr.app N275 Nq278
          have HH279 := HH276.keep Kq278 (sfS (Safe.exa hZ.alike f277 (by decide) (by decide)) sf0)
          show own_Ends p e below _ (T278.setTop (mkF m 182 #[.val (.int p1), .val (.int p2), .val (.int p3), .val (.int p4), .val (.int p5), .val (.ref b1), .val (.ref b9), .val (.ref b15), .val (.ref b22), .val (.ref b29), .val (.ref a42), .val (.int (p1 &&& (3 : Int32))), .val (.ref b29), .val (.int (1 : Int32)), .val (.ref b255), .val .null, .unset, .unset] [(.ref b268)]))
          refine own_astore X278 hx #[.val (.int p1), .val (.int p2), .val (.int p3), .val (.int p4), .val (.int p5), .val (.ref b1), .val (.ref b9), .val (.ref b15), .val (.ref b22), .val (.ref b29), .val (.ref a42), .val (.int (p1 &&& (3 : Int32))), .val (.ref b29), .val (.int (1 : Int32)), .val (.ref b255), .val (.ref b268), .unset, .unset] (hb hby at_182) rfl rfl rfl ?_
          refine own_aload X278 hx (hb hby at_184) rfl rfl rfl ?_
          refine own_aload X278 hx (hb hby at_186) rfl rfl rfl ?_
          have f280 := ((((El259.ext E268).ext E271).keep Kq275).keep Kq278)
          have f281 := ((f274.keep Kq275 (allS g_b271 all0)).keep Kq278 (allS g_b268 all0))
          have f282 := ((((Ml259.ext E268).ext E271).keep Kq275 (ninS (Nat.ne_of_lt (Nat.lt_of_lt_of_le (El259.ext E268).lt (Nat.le_of_eq g271.symm))) nin0)).keep Kq278 (ninS (Nat.ne_of_lt (Nat.lt_of_lt_of_le El259.lt (Nat.le_of_eq g268.symm))) nin0))
          have f283 := ((((Dl259.ext E268).ext E271).keep Kq275 (ninS (Nat.ne_of_lt (Nat.lt_of_lt_of_le (El259.ext E268).lt (Nat.le_of_eq g271.symm))) nin0)).keep Kq278 (ninS (Nat.ne_of_lt (Nat.lt_of_lt_of_le El259.lt (Nat.le_of_eq g268.symm))) nin0))
          have f284 := ((((Sl259.ext E268).ext E271).keep Kq275 (ninS (Nat.ne_of_lt (Nat.lt_of_lt_of_le (El259.ext E268).lt (Nat.le_of_eq g271.symm))) nin0)).keep Kq278 (ninS (Nat.ne_of_lt (Nat.lt_of_lt_of_le El259.lt (Nat.le_of_eq g268.symm))) nin0))
          refine own_virtual X278 hx hZ (y := (⟨"java/util/ArrayList", "add", "(Ljava/lang/Object;)Z"⟩ : MethodName)) (z := (⟨"java/util/ArrayList", "add", "(Ljava/lang/Object;)Z"⟩ : MethodName)) hown (hw _ (List.mem_of_getElem? (i := 94) rfl)) (hw _ (List.mem_of_getElem? (i := 95) rfl)) (notFace_of_selects (args := #[]) (mvT hZ (hw _ (List.mem_of_getElem? (i := 97) rfl)))) (hw _ (List.mem_of_getElem? (i := 97) rfl)) (hw _ (List.mem_of_getElem? (i := 96) rfl)) (hw _ (List.mem_of_getElem? (i := 49) rfl)) (hw _ (List.mem_of_getElem? (i := 98) rfl)) (by decide) rfl (by decide) (W := 0) (by decide) (by decide) (by decide) [(.ref b268)] [] (by rw [hml]; rfl) f280 (own_addE l Z a0 hw b255 b268 de kd (0 : Int32) T278.heap n0 f281 g_b255 SD VD ⟨f280, f282, f283, f284⟩ (Ins.of_exa Ee278 (hw _ (List.mem_of_getElem? (i := 124) rfl)))) own_pd13 rfl rfl rfl (hb hby at_188) rfl ?_
          intro v285 T285 L285 X285 hQ285
          obtain ⟨rfl, Nq285, Kq285, b285, k285, g_b285, sz_b285, Al285, V285, Ov285⟩ := hQ285
          have N285 := Fr.app N278 Nq285
          have HH286 := HH279.keep Kq285 (sfS (Safe.exa hZ.alike f280 (by decide) (by decide)) sf0)
          obtain ⟨El285, Ml285, Dl285, Sl285⟩ := Al285
          show own_Ends p e below _ (T285.setTop (mkF m 191 #[.val (.int p1), .val (.int p2), .val (.int p3), .val (.int p4), .val (.int p5), .val (.ref b1), .val (.ref b9), .val (.ref b15), .val (.ref b22), .val (.ref b29), .val (.ref a42), .val (.int (p1 &&& (3 : Int32))), .val (.ref b29), .val (.int (1 : Int32)), .val (.ref b255), .val (.ref b268), .unset, .unset] [(.int (1 : Int32))]))
          refine own_pop X285 hx (hb hby at_191) rfl rfl ?_
          refine own_new X285 hx hZ hown (hw _ (List.mem_of_getElem? (i := 71) rfl)) (hw _ (List.mem_of_getElem? (i := 72) rfl)) (hw _ (List.mem_of_getElem? (i := 73) rfl)) rfl (hb hby at_192) (by decide) (by decide) rfl ?_
          intro T287 h287 b287 X287 e287 g287 E287 A287 D287
          have f288 := (f281.keep Kq285 (allS g_b255 all0))
          have g_b287 : n0 ≤ b287 := Nat.le_trans (own_oz f288) (Nat.le_of_eq g287.symm)
          have HH289 := HH286.ext E287
          have Fb287_name : Fld Z h287 b287 "com/example/ledgerleaf/ledgerleaf/Element" "name" "Ljava/lang/String;" .null := D287 (Or.inr (hw _ (List.mem_of_getElem? (i := 84) rfl))) (ty := (.object "java/lang/String")) (by decide)
          have Fb287_text : Fld Z h287 b287 "com/example/ledgerleaf/ledgerleaf/Element" "text" "Ljava/lang/String;" .null := D287 (Or.inr (hw _ (List.mem_of_getElem? (i := 86) rfl))) (ty := (.object "java/lang/String")) (by decide)
          have Fb287_children : Fld Z h287 b287 "com/example/ledgerleaf/ledgerleaf/Element" "children" "Ljava/util/List;" .null := D287 (Or.inr (hw _ (List.mem_of_getElem? (i := 88) rfl))) (ty := (.object "java/util/List")) (by decide)
          refine own_dup X287 hx (hb hby at_195) rfl rfl ?_
          refine own_aload X287 hx (hb hby at_196) rfl rfl rfl ?_
          refine own_aload X287 hx (hb hby at_198) rfl rfl rfl ?_
          refine own_aload X287 hx (hb hby at_200) rfl rfl rfl ?_
          refine own_special X287 hx hZ (y := (⟨"com/example/ledgerleaf/ledgerleaf/Element", "<init>", "(Ljava/lang/String;Ljava/lang/String;Ljava/util/List;)V"⟩ : MethodName)) rfl hown (hw _ (List.mem_of_getElem? (i := 74) rfl)) (hw _ (List.mem_of_getElem? (i := 75) rfl)) (hw _ (List.mem_of_getElem? (i := 73) rfl)) (hw _ (List.mem_of_getElem? (i := 76) rfl)) (by decide) e287 (by decide) (W := 1) (by decide) (by decide) (by decide) [(.ref a42), (.ref b29), (.ref b255)] [(.ref b287)] (by rw [hml]; rfl) (a := b287) (own_elR l Z a0 hw b287 a42 b29 b255 h287 n0 g_b287 A287 D287) own_pd11 rfl rfl rfl (hb hby at_202) rfl ?_
          intro v290 T290 L290 X290 hQ290
          obtain ⟨rfl, Nq290, Kq290, Ee290, Ft290⟩ := hQ290
          have N290 := Fr.app N285 Nq290
          have HH291 := HH289.keep Kq290 (sfS (Safe.exa hZ.alike A287 (by decide) (by decide)) sf0)
          show own_Ends p e below _ (T290.setTop (mkF m 205 #[.val (.int p1), .val (.int p2), .val (.int p3), .val (.int p4), .val (.int p5), .val (.ref b1), .val (.ref b9), .val (.ref b15), .val (.ref b22), .val (.ref b29), .val (.ref a42), .val (.int (p1 &&& (3 : Int32))), .val (.ref b29), .val (.int (1 : Int32)), .val (.ref b255), .val (.ref b268), .unset, .unset] [(.ref b287)]))
          refine own_astore X290 hx #[.val (.int p1), .val (.int p2), .val (.int p3), .val (.int p4), .val (.int p5), .val (.ref b1), .val (.ref b9), .val (.ref b15), .val (.ref b22), .val (.ref b29), .val (.ref a42), .val (.int (p1 &&& (3 : Int32))), .val (.ref b29), .val (.int (1 : Int32)), .val (.ref b255), .val (.ref b268), .val (.ref b287), .unset] (hb hby at_205) rfl rfl rfl ?_
          refine own_iload X290 hx (hb hby at_207) rfl rfl ?_
          refine own_ifF X290 hx (hb hby at_209) rfl (feq hc89_44).1 ?_
          refine own_iconst X290 hx (1 : Int32) (hb hby at_212) (by decide) rfl ?_
          refine own_goto X290 hx (hb hby at_213) (by decide) rfl ?_
          refine own_istore X290 hx #[.val (.int p1), .val (.int p2), .val (.int p3), .val (.int p4), .val (.int p5), .val (.ref b1), .val (.ref b9), .val (.ref b15), .val (.ref b22), .val (.ref b29), .val (.ref a42), .val (.int (p1 &&& (3 : Int32))), .val (.ref b29), .val (.int (1 : Int32)), .val (.ref b255), .val (.ref b268), .val (.ref b287), .val (.int (1 : Int32))] (hb hby at_217) rfl rfl ?_
          refine own_aload X290 hx (hb hby at_219) rfl rfl rfl ?_
          refine own_virtual X290 hx hZ (y := (⟨"com/example/ledgerleaf/ledgerleaf/Element", "holdsText", "()Z"⟩ : MethodName)) (z := (⟨"com/example/ledgerleaf/ledgerleaf/Element", "holdsText", "()Z"⟩ : MethodName)) hown (hw _ (List.mem_of_getElem? (i := 89) rfl)) (hw _ (List.mem_of_getElem? (i := 90) rfl)) (notFace_of_selects (args := #[]) (mvT hZ (hw _ (List.mem_of_getElem? (i := 92) rfl)))) (hw _ (List.mem_of_getElem? (i := 92) rfl)) (hw _ (List.mem_of_getElem? (i := 91) rfl)) (hw _ (List.mem_of_getElem? (i := 73) rfl)) (hw _ (List.mem_of_getElem? (i := 93) rfl)) (by decide) rfl (by decide) (W := 0) (by decide) (by decide) (by decide) [] [] (by rw [hml]; rfl) Ee290 (own_holdR l Z a0 hw b287 b29 T290.heap n0 Ft290) own_pd12 rfl rfl rfl (hb hby at_221) rfl ?_
          intro v292 T292 L292 X292 hQ292
          obtain ⟨rfl, Nq292, hh292⟩ := hQ292
          have N292 := Fr.app N290 Nq292
          show own_Ends p e below _ (T292.setTop (mkF m 224 #[.val (.int p1), .val (.int p2), .val (.int p3), .val (.int p4), .val (.int p5), .val (.ref b1), .val (.ref b9), .val (.ref b15), .val (.ref b22), .val (.ref b29), .val (.ref a42), .val (.int (p1 &&& (3 : Int32))), .val (.ref b29), .val (.int (1 : Int32)), .val (.ref b255), .val (.ref b268), .val (.ref b287), .val (.int (1 : Int32))] [(.int (1 : Int32))]))
          refine own_iload X292 hx (hb hby at_224) rfl rfl ?_
          refine own_icmpT X292 hx (hb hby at_226) (by decide) rfl (by decide) ?_
          refine own_aload X292 hx (hb hby at_231) rfl rfl rfl ?_
          refine own_ifnullF X292 hx (hb hby at_233) rfl ?_
          refine own_aload X292 hx (hb hby at_236) rfl rfl rfl ?_
          have f293 := (((Ft278.keep Kq285 (ninS (Ne.symm (Nat.ne_of_lt (Nat.lt_of_lt_of_le El259.lt (Nat.le_of_eq g268.symm)))) nin0)).ext E287).keep Kq290 (ninS (Nat.ne_of_lt (Nat.lt_of_lt_of_le (Ee278.keep Kq285).lt (Nat.le_of_eq g287.symm))) nin0))
          have f295 := (((Ee278.keep Kq285).ext E287).keep Kq290)
          refine own_virtual X292 hx hZ (y := (⟨"com/example/ledgerleaf/ledgerleaf/Element", "holdsText", "()Z"⟩ : MethodName)) (z := (⟨"com/example/ledgerleaf/ledgerleaf/Element", "holdsText", "()Z"⟩ : MethodName)) hown (hw _ (List.mem_of_getElem? (i := 89) rfl)) (hw _ (List.mem_of_getElem? (i := 90) rfl)) (notFace_of_selects (args := #[]) (mvT hZ (hw _ (List.mem_of_getElem? (i := 92) rfl)))) (hw _ (List.mem_of_getElem? (i := 92) rfl)) (hw _ (List.mem_of_getElem? (i := 91) rfl)) (hw _ (List.mem_of_getElem? (i := 73) rfl)) (hw _ (List.mem_of_getElem? (i := 93) rfl)) (by decide) hh292 (by decide) (W := 0) (by decide) (by decide) (by decide) [] [] (by rw [hml]; rfl) f295 (own_holdR l Z a0 hw b268 b22 T290.heap n0 f293) own_pd12 rfl rfl rfl (hb hby at_238) rfl ?_
          intro v294 T294 L294 X294 hQ294
          obtain ⟨rfl, Nq294, hh294⟩ := hQ294
          have N294 := Fr.app N292 Nq294
          show own_Ends p e below _ (T294.setTop (mkF m 241 #[.val (.int p1), .val (.int p2), .val (.int p3), .val (.int p4), .val (.int p5), .val (.ref b1), .val (.ref b9), .val (.ref b15), .val (.ref b22), .val (.ref b29), .val (.ref a42), .val (.int (p1 &&& (3 : Int32))), .val (.ref b29), .val (.int (1 : Int32)), .val (.ref b255), .val (.ref b268), .val (.ref b287), .val (.int (1 : Int32))] [(.int (1 : Int32))]))
          refine own_iload X294 hx (hb hby at_241) rfl rfl ?_
          refine own_icmpT X294 hx (hb hby at_243) (by decide) rfl (by decide) ?_
          refine own_iconst X294 hx (1 : Int32) (hb hby at_248) (by decide) rfl ?_
          exact own_retNH X294 hx hZ hh294 HH291 hEL hlocks hret (by simp) (hb hby at_249) (by decide) (by decide) (by decide) ⟨rfl, N294⟩
  · refine own_aconst_null X42 hx (hb hby at_92) rfl ?_
    refine own_goto X42 hx (hb hby at_93) (by decide) rfl ?_
    refine own_astore X42 hx #[.val (.int p1), .val (.int p2), .val (.int p3), .val (.int p4), .val (.int p5), .val (.ref b1), .val (.ref b9), .val (.ref b15), .val (.ref b22), .val (.ref b29), .val (.ref a42), .val (.int (p1 &&& (3 : Int32))), .val .null, .unset, .unset, .unset, .unset, .unset] (hb hby at_120) rfl rfl rfl ?_
    refine own_iload X42 hx (hb hby at_122) rfl rfl ?_
    refine own_iconst X42 hx (2 : Int32) (hb hby at_124) (by decide) rfl ?_
    refine own_iand X42 hx (hb hby at_125) rfl ?_
    refine own_if_ne X42 hx (hb hby at_126) (by decide) rfl rfl (fun hc126_296 => ?_) (fun hc126_296 => ?_)
    · refine own_iconst X42 hx (0 : Int32) (hb hby at_133) (by decide) rfl ?_
      refine own_istore X42 hx #[.val (.int p1), .val (.int p2), .val (.int p3), .val (.int p4), .val (.int p5), .val (.ref b1), .val (.ref b9), .val (.ref b15), .val (.ref b22), .val (.ref b29), .val (.ref a42), .val (.int (p1 &&& (3 : Int32))), .val .null, .val (.int (0 : Int32)), .unset, .unset, .unset, .unset] (hb hby at_134) rfl rfl ?_
      refine own_new X42 hx hZ hown (hw _ (List.mem_of_getElem? (i := 47) rfl)) (hw _ (List.mem_of_getElem? (i := 48) rfl)) (hw _ (List.mem_of_getElem? (i := 49) rfl)) rfl (hb hby at_136) (by decide) (by decide) rfl ?_
      intro T297 h297 b297 X297 e297 g297 E297 A297 D297
      have f298 := (f41.keep Kq42 all0)
      have g_b297 : n0 ≤ b297 := Nat.le_trans (own_oz f298) (Nat.le_of_eq g297.symm)
      have HH299 := HH43.ext E297
      have Fb297_modCount : Fld Z h297 b297 "java/util/AbstractList" "modCount" "I" (.int (0 : Int32)) := D297 (Or.inl (hw _ (List.mem_of_getElem? (i := 67) rfl))) (ty := .int) (by decide)
      have Fb297_elementData : Fld Z h297 b297 "java/util/ArrayList" "elementData" "[Ljava/lang/Object;" .null := D297 (Or.inl (hw _ (List.mem_of_getElem? (i := 70) rfl))) (ty := (.array (.object "java/lang/Object"))) (by decide)
      have Fb297_size : Fld Z h297 b297 "java/util/ArrayList" "size" "I" (.int (0 : Int32)) := D297 (Or.inl (hw _ (List.mem_of_getElem? (i := 102) rfl))) (ty := .int) (by decide)
      refine own_dup X297 hx (hb hby at_139) rfl rfl ?_
      have f300 := (f298.ext E297)
      refine own_special X297 hx hZ (y := (⟨"java/util/ArrayList", "<init>", "()V"⟩ : MethodName)) rfl hown (hw _ (List.mem_of_getElem? (i := 50) rfl)) (hw _ (List.mem_of_getElem? (i := 51) rfl)) (hw _ (List.mem_of_getElem? (i := 49) rfl)) (hw _ (List.mem_of_getElem? (i := 52) rfl)) (by decide) e297 (by decide) (W := 1) (by decide) (by decide) (by decide) [] [(.ref b297)] (by rw [hml]; rfl) (a := b297) (own_ali l Z a0 hw b297 de kd h297 n0 f300 g_b297 SD VD A297 D297) own_pd4 rfl rfl rfl (hb hby at_140) rfl ?_
      intro v301 T301 L301 X301 hQ301
      obtain ⟨rfl, Nq301, Kq301, Al301⟩ := hQ301
      have N301 := Fr.app N42 Nq301
      have HH302 := HH299.keep Kq301 (sfS (Safe.exa hZ.alike A297 (by decide) (by decide)) sf0)
      obtain ⟨El301, Ml301, Dl301, Sl301⟩ := Al301
      show own_Ends p e below _ (T301.setTop (mkF m 143 #[.val (.int p1), .val (.int p2), .val (.int p3), .val (.int p4), .val (.int p5), .val (.ref b1), .val (.ref b9), .val (.ref b15), .val (.ref b22), .val (.ref b29), .val (.ref a42), .val (.int (p1 &&& (3 : Int32))), .val .null, .val (.int (0 : Int32)), .unset, .unset, .unset, .unset] [(.ref b297)]))
      refine own_astore X301 hx #[.val (.int p1), .val (.int p2), .val (.int p3), .val (.int p4), .val (.int p5), .val (.ref b1), .val (.ref b9), .val (.ref b15), .val (.ref b22), .val (.ref b29), .val (.ref a42), .val (.int (p1 &&& (3 : Int32))), .val .null, .val (.int (0 : Int32)), .val (.ref b297), .unset, .unset, .unset] (hb hby at_143) rfl rfl rfl ?_
      refine own_aconst_null X301 hx (hb hby at_145) rfl ?_
      refine own_astore X301 hx #[.val (.int p1), .val (.int p2), .val (.int p3), .val (.int p4), .val (.int p5), .val (.ref b1), .val (.ref b9), .val (.ref b15), .val (.ref b22), .val (.ref b29), .val (.ref a42), .val (.int (p1 &&& (3 : Int32))), .val .null, .val (.int (0 : Int32)), .val (.ref b297), .val .null, .unset, .unset] (hb hby at_146) rfl rfl rfl ?_
      refine own_iload X301 hx (hb hby at_148) rfl rfl ?_
      refine own_iconst X301 hx (1 : Int32) (hb hby at_150) (by decide) rfl ?_
      refine own_iand X301 hx (hb hby at_151) rfl ?_
      refine own_if_eq X301 hx (hb hby at_152) (by decide) rfl rfl (fun hc152_303 => ?_) (fun hc152_303 => ?_)
      · refine own_new X301 hx hZ hown (hw _ (List.mem_of_getElem? (i := 71) rfl)) (hw _ (List.mem_of_getElem? (i := 72) rfl)) (hw _ (List.mem_of_getElem? (i := 73) rfl)) rfl (hb hby at_192) (by decide) (by decide) rfl ?_
        intro T304 h304 b304 X304 e304 g304 E304 A304 D304
        have f305 := (f300.keep Kq301 (allS g_b297 all0))
        have g_b304 : n0 ≤ b304 := Nat.le_trans (own_oz f305) (Nat.le_of_eq g304.symm)
        have HH306 := HH302.ext E304
        have Fb304_name : Fld Z h304 b304 "com/example/ledgerleaf/ledgerleaf/Element" "name" "Ljava/lang/String;" .null := D304 (Or.inr (hw _ (List.mem_of_getElem? (i := 84) rfl))) (ty := (.object "java/lang/String")) (by decide)
        have Fb304_text : Fld Z h304 b304 "com/example/ledgerleaf/ledgerleaf/Element" "text" "Ljava/lang/String;" .null := D304 (Or.inr (hw _ (List.mem_of_getElem? (i := 86) rfl))) (ty := (.object "java/lang/String")) (by decide)
        have Fb304_children : Fld Z h304 b304 "com/example/ledgerleaf/ledgerleaf/Element" "children" "Ljava/util/List;" .null := D304 (Or.inr (hw _ (List.mem_of_getElem? (i := 88) rfl))) (ty := (.object "java/util/List")) (by decide)
        refine own_dup X304 hx (hb hby at_195) rfl rfl ?_
        refine own_aload X304 hx (hb hby at_196) rfl rfl rfl ?_
        refine own_aload X304 hx (hb hby at_198) rfl rfl rfl ?_
        refine own_aload X304 hx (hb hby at_200) rfl rfl rfl ?_
        refine own_special X304 hx hZ (y := (⟨"com/example/ledgerleaf/ledgerleaf/Element", "<init>", "(Ljava/lang/String;Ljava/lang/String;Ljava/util/List;)V"⟩ : MethodName)) rfl hown (hw _ (List.mem_of_getElem? (i := 74) rfl)) (hw _ (List.mem_of_getElem? (i := 75) rfl)) (hw _ (List.mem_of_getElem? (i := 73) rfl)) (hw _ (List.mem_of_getElem? (i := 76) rfl)) (by decide) e304 (by decide) (W := 1) (by decide) (by decide) (by decide) [(.ref a42), .null, (.ref b297)] [(.ref b304)] (by rw [hml]; rfl) (a := b304) (own_elN l Z a0 hw b304 a42 b297 h304 n0 g_b304 A304 D304) own_pd11 rfl rfl rfl (hb hby at_202) rfl ?_
        intro v307 T307 L307 X307 hQ307
        obtain ⟨rfl, Nq307, Kq307, Ee307, Ft307⟩ := hQ307
        have N307 := Fr.app N301 Nq307
        have HH308 := HH306.keep Kq307 (sfS (Safe.exa hZ.alike A304 (by decide) (by decide)) sf0)
        show own_Ends p e below _ (T307.setTop (mkF m 205 #[.val (.int p1), .val (.int p2), .val (.int p3), .val (.int p4), .val (.int p5), .val (.ref b1), .val (.ref b9), .val (.ref b15), .val (.ref b22), .val (.ref b29), .val (.ref a42), .val (.int (p1 &&& (3 : Int32))), .val .null, .val (.int (0 : Int32)), .val (.ref b297), .val .null, .unset, .unset] [(.ref b304)]))
        refine own_astore X307 hx #[.val (.int p1), .val (.int p2), .val (.int p3), .val (.int p4), .val (.int p5), .val (.ref b1), .val (.ref b9), .val (.ref b15), .val (.ref b22), .val (.ref b29), .val (.ref a42), .val (.int (p1 &&& (3 : Int32))), .val .null, .val (.int (0 : Int32)), .val (.ref b297), .val .null, .val (.ref b304), .unset] (hb hby at_205) rfl rfl rfl ?_
        refine own_iload X307 hx (hb hby at_207) rfl rfl ?_
        refine own_ifT X307 hx (hb hby at_209) (by decide) rfl (teq hc89_44).1 ?_
        refine own_iconst X307 hx (0 : Int32) (hb hby at_216) (by decide) rfl ?_
        refine own_istore X307 hx #[.val (.int p1), .val (.int p2), .val (.int p3), .val (.int p4), .val (.int p5), .val (.ref b1), .val (.ref b9), .val (.ref b15), .val (.ref b22), .val (.ref b29), .val (.ref a42), .val (.int (p1 &&& (3 : Int32))), .val .null, .val (.int (0 : Int32)), .val (.ref b297), .val .null, .val (.ref b304), .val (.int (0 : Int32))] (hb hby at_217) rfl rfl ?_
        refine own_aload X307 hx (hb hby at_219) rfl rfl rfl ?_
        refine own_virtual X307 hx hZ (y := (⟨"com/example/ledgerleaf/ledgerleaf/Element", "holdsText", "()Z"⟩ : MethodName)) (z := (⟨"com/example/ledgerleaf/ledgerleaf/Element", "holdsText", "()Z"⟩ : MethodName)) hown (hw _ (List.mem_of_getElem? (i := 89) rfl)) (hw _ (List.mem_of_getElem? (i := 90) rfl)) (notFace_of_selects (args := #[]) (mvT hZ (hw _ (List.mem_of_getElem? (i := 92) rfl)))) (hw _ (List.mem_of_getElem? (i := 92) rfl)) (hw _ (List.mem_of_getElem? (i := 91) rfl)) (hw _ (List.mem_of_getElem? (i := 73) rfl)) (hw _ (List.mem_of_getElem? (i := 93) rfl)) (by decide) rfl (by decide) (W := 0) (by decide) (by decide) (by decide) [] [] (by rw [hml]; rfl) Ee307 (own_holdN l Z a0 hw b304 T307.heap n0 Ft307) own_pd12 rfl rfl rfl (hb hby at_221) rfl ?_
        intro v309 T309 L309 X309 hQ309
        obtain ⟨rfl, Nq309, hh309⟩ := hQ309
        have N309 := Fr.app N307 Nq309
        show own_Ends p e below _ (T309.setTop (mkF m 224 #[.val (.int p1), .val (.int p2), .val (.int p3), .val (.int p4), .val (.int p5), .val (.ref b1), .val (.ref b9), .val (.ref b15), .val (.ref b22), .val (.ref b29), .val (.ref a42), .val (.int (p1 &&& (3 : Int32))), .val .null, .val (.int (0 : Int32)), .val (.ref b297), .val .null, .val (.ref b304), .val (.int (0 : Int32))] [(.int (0 : Int32))]))
        refine own_iload X309 hx (hb hby at_224) rfl rfl ?_
        refine own_icmpT X309 hx (hb hby at_226) (by decide) rfl (by decide) ?_
        refine own_aload X309 hx (hb hby at_231) rfl rfl rfl ?_
        refine own_ifnullT X309 hx (hb hby at_233) (by decide) rfl ?_
        refine own_iconst X309 hx (1 : Int32) (hb hby at_248) (by decide) rfl ?_
        exact own_retNH X309 hx hZ hh309 HH308 hEL hlocks hret (by simp) (hb hby at_249) (by decide) (by decide) (by decide) ⟨rfl, N309⟩
      · refine own_new X301 hx hZ hown (hw _ (List.mem_of_getElem? (i := 71) rfl)) (hw _ (List.mem_of_getElem? (i := 72) rfl)) (hw _ (List.mem_of_getElem? (i := 73) rfl)) rfl (hb hby at_155) (by decide) (by decide) rfl ?_
        intro T310 h310 b310 X310 e310 g310 E310 A310 D310
        have f311 := (f300.keep Kq301 (allS g_b297 all0))
        have g_b310 : n0 ≤ b310 := Nat.le_trans (own_oz f311) (Nat.le_of_eq g310.symm)
        have HH312 := HH302.ext E310
        have Fb310_name : Fld Z h310 b310 "com/example/ledgerleaf/ledgerleaf/Element" "name" "Ljava/lang/String;" .null := D310 (Or.inr (hw _ (List.mem_of_getElem? (i := 84) rfl))) (ty := (.object "java/lang/String")) (by decide)
        have Fb310_text : Fld Z h310 b310 "com/example/ledgerleaf/ledgerleaf/Element" "text" "Ljava/lang/String;" .null := D310 (Or.inr (hw _ (List.mem_of_getElem? (i := 86) rfl))) (ty := (.object "java/lang/String")) (by decide)
        have Fb310_children : Fld Z h310 b310 "com/example/ledgerleaf/ledgerleaf/Element" "children" "Ljava/util/List;" .null := D310 (Or.inr (hw _ (List.mem_of_getElem? (i := 88) rfl))) (ty := (.object "java/util/List")) (by decide)
        refine own_dup X310 hx (hb hby at_158) rfl rfl ?_
        refine own_aload X310 hx (hb hby at_159) rfl rfl rfl ?_
        refine own_iload X310 hx (hb hby at_161) rfl rfl ?_
        refine own_ifT X310 hx (hb hby at_163) (by decide) rfl (by decide) ?_
        refine own_aconst_null X310 hx (hb hby at_171) rfl ?_
        refine own_new X310 hx hZ hown (hw _ (List.mem_of_getElem? (i := 47) rfl)) (hw _ (List.mem_of_getElem? (i := 48) rfl)) (hw _ (List.mem_of_getElem? (i := 49) rfl)) e310 (hb hby at_172) (by decide) (by decide) rfl ?_
        intro T313 h313 b313 X313 e313 g313 E313 A313 D313
        have f314 := (f311.ext E310)
        have g_b313 : n0 ≤ b313 := Nat.le_trans (own_oz f314) (Nat.le_of_eq g313.symm)
        have HH315 := HH312.ext E313
        have Fb313_modCount : Fld Z h313 b313 "java/util/AbstractList" "modCount" "I" (.int (0 : Int32)) := D313 (Or.inl (hw _ (List.mem_of_getElem? (i := 67) rfl))) (ty := .int) (by decide)
        have Fb313_elementData : Fld Z h313 b313 "java/util/ArrayList" "elementData" "[Ljava/lang/Object;" .null := D313 (Or.inl (hw _ (List.mem_of_getElem? (i := 70) rfl))) (ty := (.array (.object "java/lang/Object"))) (by decide)
        have Fb313_size : Fld Z h313 b313 "java/util/ArrayList" "size" "I" (.int (0 : Int32)) := D313 (Or.inl (hw _ (List.mem_of_getElem? (i := 102) rfl))) (ty := .int) (by decide)
        refine own_dup X313 hx (hb hby at_175) rfl rfl ?_
        have f316 := (f314.ext E313)
        refine own_special X313 hx hZ (y := (⟨"java/util/ArrayList", "<init>", "()V"⟩ : MethodName)) rfl hown (hw _ (List.mem_of_getElem? (i := 50) rfl)) (hw _ (List.mem_of_getElem? (i := 51) rfl)) (hw _ (List.mem_of_getElem? (i := 49) rfl)) (hw _ (List.mem_of_getElem? (i := 52) rfl)) (by decide) e313 (by decide) (W := 5) (by decide) (by decide) (by decide) [] [(.ref b313), .null, (.ref a42), (.ref b310), (.ref b310)] (by rw [hml]; rfl) (a := b313) (own_ali l Z a0 hw b313 de kd h313 n0 f316 g_b313 SD VD A313 D313) own_pd4 rfl rfl rfl (hb hby at_176) rfl ?_
        intro v317 T317 L317 X317 hQ317
        obtain ⟨rfl, Nq317, Kq317, Al317⟩ := hQ317
        have N317 := Fr.app N301 Nq317
        have HH318 := HH315.keep Kq317 (sfS (Safe.exa hZ.alike A313 (by decide) (by decide)) sf0)
        obtain ⟨El317, Ml317, Dl317, Sl317⟩ := Al317
        show own_Ends p e below _ (T317.setTop (mkF m 179 #[.val (.int p1), .val (.int p2), .val (.int p3), .val (.int p4), .val (.int p5), .val (.ref b1), .val (.ref b9), .val (.ref b15), .val (.ref b22), .val (.ref b29), .val (.ref a42), .val (.int (p1 &&& (3 : Int32))), .val .null, .val (.int (0 : Int32)), .val (.ref b297), .val .null, .unset, .unset] [(.ref b313), .null, (.ref a42), (.ref b310), (.ref b310)]))
        have f319 := ((A310.ext E313).keep Kq317)
        refine own_special X317 hx hZ (y := (⟨"com/example/ledgerleaf/ledgerleaf/Element", "<init>", "(Ljava/lang/String;Ljava/lang/String;Ljava/util/List;)V"⟩ : MethodName)) rfl hown (hw _ (List.mem_of_getElem? (i := 74) rfl)) (hw _ (List.mem_of_getElem? (i := 75) rfl)) (hw _ (List.mem_of_getElem? (i := 73) rfl)) (hw _ (List.mem_of_getElem? (i := 76) rfl)) (by decide) rfl (by decide) (W := 1) (by decide) (by decide) (by decide) [(.ref a42), .null, (.ref b313)] [(.ref b310)] (by rw [hml]; rfl) (a := b310) (own_elN l Z a0 hw b310 a42 b313 T317.heap n0 g_b310 f319 (fun L p => (((D310 L p).ext E313).keep Kq317 (ninS (Nat.ne_of_lt (Nat.lt_of_lt_of_le A310.lt (Nat.le_of_eq g313.symm))) nin0)))) own_pd11 rfl rfl rfl (hb hby at_179) rfl ?_
        intro v320 T320 L320 X320 hQ320
        obtain ⟨rfl, Nq320, Kq320, Ee320, Ft320⟩ := hQ320
        have N320 := Fr.app N317 Nq320
        have HH321 := HH318.keep Kq320 (sfS (Safe.exa hZ.alike f319 (by decide) (by decide)) sf0)
        show own_Ends p e below _ (T320.setTop (mkF m 182 #[.val (.int p1), .val (.int p2), .val (.int p3), .val (.int p4), .val (.int p5), .val (.ref b1), .val (.ref b9), .val (.ref b15), .val (.ref b22), .val (.ref b29), .val (.ref a42), .val (.int (p1 &&& (3 : Int32))), .val .null, .val (.int (0 : Int32)), .val (.ref b297), .val .null, .unset, .unset] [(.ref b310)]))
        refine own_astore X320 hx #[.val (.int p1), .val (.int p2), .val (.int p3), .val (.int p4), .val (.int p5), .val (.ref b1), .val (.ref b9), .val (.ref b15), .val (.ref b22), .val (.ref b29), .val (.ref a42), .val (.int (p1 &&& (3 : Int32))), .val .null, .val (.int (0 : Int32)), .val (.ref b297), .val (.ref b310), .unset, .unset] (hb hby at_182) rfl rfl rfl ?_
        refine own_aload X320 hx (hb hby at_184) rfl rfl rfl ?_
        refine own_aload X320 hx (hb hby at_186) rfl rfl rfl ?_
        have f322 := ((((El301.ext E310).ext E313).keep Kq317).keep Kq320)
        have f323 := ((f316.keep Kq317 (allS g_b313 all0)).keep Kq320 (allS g_b310 all0))
        have f324 := ((((Ml301.ext E310).ext E313).keep Kq317 (ninS (Nat.ne_of_lt (Nat.lt_of_lt_of_le (El301.ext E310).lt (Nat.le_of_eq g313.symm))) nin0)).keep Kq320 (ninS (Nat.ne_of_lt (Nat.lt_of_lt_of_le El301.lt (Nat.le_of_eq g310.symm))) nin0))
        have f325 := ((((Dl301.ext E310).ext E313).keep Kq317 (ninS (Nat.ne_of_lt (Nat.lt_of_lt_of_le (El301.ext E310).lt (Nat.le_of_eq g313.symm))) nin0)).keep Kq320 (ninS (Nat.ne_of_lt (Nat.lt_of_lt_of_le El301.lt (Nat.le_of_eq g310.symm))) nin0))
        have f326 := ((((Sl301.ext E310).ext E313).keep Kq317 (ninS (Nat.ne_of_lt (Nat.lt_of_lt_of_le (El301.ext E310).lt (Nat.le_of_eq g313.symm))) nin0)).keep Kq320 (ninS (Nat.ne_of_lt (Nat.lt_of_lt_of_le El301.lt (Nat.le_of_eq g310.symm))) nin0))
        refine own_virtual X320 hx hZ (y := (⟨"java/util/ArrayList", "add", "(Ljava/lang/Object;)Z"⟩ : MethodName)) (z := (⟨"java/util/ArrayList", "add", "(Ljava/lang/Object;)Z"⟩ : MethodName)) hown (hw _ (List.mem_of_getElem? (i := 94) rfl)) (hw _ (List.mem_of_getElem? (i := 95) rfl)) (notFace_of_selects (args := #[]) (mvT hZ (hw _ (List.mem_of_getElem? (i := 97) rfl)))) (hw _ (List.mem_of_getElem? (i := 97) rfl)) (hw _ (List.mem_of_getElem? (i := 96) rfl)) (hw _ (List.mem_of_getElem? (i := 49) rfl)) (hw _ (List.mem_of_getElem? (i := 98) rfl)) (by decide) rfl (by decide) (W := 0) (by decide) (by decide) (by decide) [(.ref b310)] [] (by rw [hml]; rfl) f322 (own_addE l Z a0 hw b297 b310 de kd (0 : Int32) T320.heap n0 f323 g_b297 SD VD ⟨f322, f324, f325, f326⟩ (Ins.of_exa Ee320 (hw _ (List.mem_of_getElem? (i := 124) rfl)))) own_pd13 rfl rfl rfl (hb hby at_188) rfl ?_
        intro v327 T327 L327 X327 hQ327
        obtain ⟨rfl, Nq327, Kq327, b327, k327, g_b327, sz_b327, Al327, V327, Ov327⟩ := hQ327
        have N327 := Fr.app N320 Nq327
        have HH328 := HH321.keep Kq327 (sfS (Safe.exa hZ.alike f322 (by decide) (by decide)) sf0)
        obtain ⟨El327, Ml327, Dl327, Sl327⟩ := Al327
        show own_Ends p e below _ (T327.setTop (mkF m 191 #[.val (.int p1), .val (.int p2), .val (.int p3), .val (.int p4), .val (.int p5), .val (.ref b1), .val (.ref b9), .val (.ref b15), .val (.ref b22), .val (.ref b29), .val (.ref a42), .val (.int (p1 &&& (3 : Int32))), .val .null, .val (.int (0 : Int32)), .val (.ref b297), .val (.ref b310), .unset, .unset] [(.int (1 : Int32))]))
        refine own_pop X327 hx (hb hby at_191) rfl rfl ?_
        refine own_new X327 hx hZ hown (hw _ (List.mem_of_getElem? (i := 71) rfl)) (hw _ (List.mem_of_getElem? (i := 72) rfl)) (hw _ (List.mem_of_getElem? (i := 73) rfl)) rfl (hb hby at_192) (by decide) (by decide) rfl ?_
        intro T329 h329 b329 X329 e329 g329 E329 A329 D329
        have f330 := (f323.keep Kq327 (allS g_b297 all0))
        have g_b329 : n0 ≤ b329 := Nat.le_trans (own_oz f330) (Nat.le_of_eq g329.symm)
        have HH331 := HH328.ext E329
        have Fb329_name : Fld Z h329 b329 "com/example/ledgerleaf/ledgerleaf/Element" "name" "Ljava/lang/String;" .null := D329 (Or.inr (hw _ (List.mem_of_getElem? (i := 84) rfl))) (ty := (.object "java/lang/String")) (by decide)
        have Fb329_text : Fld Z h329 b329 "com/example/ledgerleaf/ledgerleaf/Element" "text" "Ljava/lang/String;" .null := D329 (Or.inr (hw _ (List.mem_of_getElem? (i := 86) rfl))) (ty := (.object "java/lang/String")) (by decide)
        have Fb329_children : Fld Z h329 b329 "com/example/ledgerleaf/ledgerleaf/Element" "children" "Ljava/util/List;" .null := D329 (Or.inr (hw _ (List.mem_of_getElem? (i := 88) rfl))) (ty := (.object "java/util/List")) (by decide)
        refine own_dup X329 hx (hb hby at_195) rfl rfl ?_
        refine own_aload X329 hx (hb hby at_196) rfl rfl rfl ?_
        refine own_aload X329 hx (hb hby at_198) rfl rfl rfl ?_
        refine own_aload X329 hx (hb hby at_200) rfl rfl rfl ?_
        refine own_special X329 hx hZ (y := (⟨"com/example/ledgerleaf/ledgerleaf/Element", "<init>", "(Ljava/lang/String;Ljava/lang/String;Ljava/util/List;)V"⟩ : MethodName)) rfl hown (hw _ (List.mem_of_getElem? (i := 74) rfl)) (hw _ (List.mem_of_getElem? (i := 75) rfl)) (hw _ (List.mem_of_getElem? (i := 73) rfl)) (hw _ (List.mem_of_getElem? (i := 76) rfl)) (by decide) e329 (by decide) (W := 1) (by decide) (by decide) (by decide) [(.ref a42), .null, (.ref b297)] [(.ref b329)] (by rw [hml]; rfl) (a := b329) (own_elN l Z a0 hw b329 a42 b297 h329 n0 g_b329 A329 D329) own_pd11 rfl rfl rfl (hb hby at_202) rfl ?_
        intro v332 T332 L332 X332 hQ332
        obtain ⟨rfl, Nq332, Kq332, Ee332, Ft332⟩ := hQ332
        have N332 := Fr.app N327 Nq332
        have HH333 := HH331.keep Kq332 (sfS (Safe.exa hZ.alike A329 (by decide) (by decide)) sf0)
        show own_Ends p e below _ (T332.setTop (mkF m 205 #[.val (.int p1), .val (.int p2), .val (.int p3), .val (.int p4), .val (.int p5), .val (.ref b1), .val (.ref b9), .val (.ref b15), .val (.ref b22), .val (.ref b29), .val (.ref a42), .val (.int (p1 &&& (3 : Int32))), .val .null, .val (.int (0 : Int32)), .val (.ref b297), .val (.ref b310), .unset, .unset] [(.ref b329)]))
        refine own_astore X332 hx #[.val (.int p1), .val (.int p2), .val (.int p3), .val (.int p4), .val (.int p5), .val (.ref b1), .val (.ref b9), .val (.ref b15), .val (.ref b22), .val (.ref b29), .val (.ref a42), .val (.int (p1 &&& (3 : Int32))), .val .null, .val (.int (0 : Int32)), .val (.ref b297), .val (.ref b310), .val (.ref b329), .unset] (hb hby at_205) rfl rfl rfl ?_
        refine own_iload X332 hx (hb hby at_207) rfl rfl ?_
        refine own_ifT X332 hx (hb hby at_209) (by decide) rfl (teq hc89_44).1 ?_
        refine own_iconst X332 hx (0 : Int32) (hb hby at_216) (by decide) rfl ?_
        refine own_istore X332 hx #[.val (.int p1), .val (.int p2), .val (.int p3), .val (.int p4), .val (.int p5), .val (.ref b1), .val (.ref b9), .val (.ref b15), .val (.ref b22), .val (.ref b29), .val (.ref a42), .val (.int (p1 &&& (3 : Int32))), .val .null, .val (.int (0 : Int32)), .val (.ref b297), .val (.ref b310), .val (.ref b329), .val (.int (0 : Int32))] (hb hby at_217) rfl rfl ?_
        refine own_aload X332 hx (hb hby at_219) rfl rfl rfl ?_
        refine own_virtual X332 hx hZ (y := (⟨"com/example/ledgerleaf/ledgerleaf/Element", "holdsText", "()Z"⟩ : MethodName)) (z := (⟨"com/example/ledgerleaf/ledgerleaf/Element", "holdsText", "()Z"⟩ : MethodName)) hown (hw _ (List.mem_of_getElem? (i := 89) rfl)) (hw _ (List.mem_of_getElem? (i := 90) rfl)) (notFace_of_selects (args := #[]) (mvT hZ (hw _ (List.mem_of_getElem? (i := 92) rfl)))) (hw _ (List.mem_of_getElem? (i := 92) rfl)) (hw _ (List.mem_of_getElem? (i := 91) rfl)) (hw _ (List.mem_of_getElem? (i := 73) rfl)) (hw _ (List.mem_of_getElem? (i := 93) rfl)) (by decide) rfl (by decide) (W := 0) (by decide) (by decide) (by decide) [] [] (by rw [hml]; rfl) Ee332 (own_holdN l Z a0 hw b329 T332.heap n0 Ft332) own_pd12 rfl rfl rfl (hb hby at_221) rfl ?_
        intro v334 T334 L334 X334 hQ334
        obtain ⟨rfl, Nq334, hh334⟩ := hQ334
        have N334 := Fr.app N332 Nq334
        show own_Ends p e below _ (T334.setTop (mkF m 224 #[.val (.int p1), .val (.int p2), .val (.int p3), .val (.int p4), .val (.int p5), .val (.ref b1), .val (.ref b9), .val (.ref b15), .val (.ref b22), .val (.ref b29), .val (.ref a42), .val (.int (p1 &&& (3 : Int32))), .val .null, .val (.int (0 : Int32)), .val (.ref b297), .val (.ref b310), .val (.ref b329), .val (.int (0 : Int32))] [(.int (0 : Int32))]))
        refine own_iload X334 hx (hb hby at_224) rfl rfl ?_
        refine own_icmpT X334 hx (hb hby at_226) (by decide) rfl (by decide) ?_
        refine own_aload X334 hx (hb hby at_231) rfl rfl rfl ?_
        refine own_ifnullF X334 hx (hb hby at_233) rfl ?_
        refine own_aload X334 hx (hb hby at_236) rfl rfl rfl ?_
        have f335 := (((Ft320.keep Kq327 (ninS (Ne.symm (Nat.ne_of_lt (Nat.lt_of_lt_of_le El301.lt (Nat.le_of_eq g310.symm)))) nin0)).ext E329).keep Kq332 (ninS (Nat.ne_of_lt (Nat.lt_of_lt_of_le (Ee320.keep Kq327).lt (Nat.le_of_eq g329.symm))) nin0))
        have f337 := (((Ee320.keep Kq327).ext E329).keep Kq332)
        refine own_virtual X334 hx hZ (y := (⟨"com/example/ledgerleaf/ledgerleaf/Element", "holdsText", "()Z"⟩ : MethodName)) (z := (⟨"com/example/ledgerleaf/ledgerleaf/Element", "holdsText", "()Z"⟩ : MethodName)) hown (hw _ (List.mem_of_getElem? (i := 89) rfl)) (hw _ (List.mem_of_getElem? (i := 90) rfl)) (notFace_of_selects (args := #[]) (mvT hZ (hw _ (List.mem_of_getElem? (i := 92) rfl)))) (hw _ (List.mem_of_getElem? (i := 92) rfl)) (hw _ (List.mem_of_getElem? (i := 91) rfl)) (hw _ (List.mem_of_getElem? (i := 73) rfl)) (hw _ (List.mem_of_getElem? (i := 93) rfl)) (by decide) hh334 (by decide) (W := 0) (by decide) (by decide) (by decide) [] [] (by rw [hml]; rfl) f337 (own_holdN l Z a0 hw b310 T332.heap n0 f335) own_pd12 rfl rfl rfl (hb hby at_238) rfl ?_
        intro v336 T336 L336 X336 hQ336
        obtain ⟨rfl, Nq336, hh336⟩ := hQ336
        have N336 := Fr.app N334 Nq336
        show own_Ends p e below _ (T336.setTop (mkF m 241 #[.val (.int p1), .val (.int p2), .val (.int p3), .val (.int p4), .val (.int p5), .val (.ref b1), .val (.ref b9), .val (.ref b15), .val (.ref b22), .val (.ref b29), .val (.ref a42), .val (.int (p1 &&& (3 : Int32))), .val .null, .val (.int (0 : Int32)), .val (.ref b297), .val (.ref b310), .val (.ref b329), .val (.int (0 : Int32))] [(.int (0 : Int32))]))
        refine own_iload X336 hx (hb hby at_241) rfl rfl ?_
        refine own_icmpT X336 hx (hb hby at_243) (by decide) rfl (by decide) ?_
        refine own_iconst X336 hx (1 : Int32) (hb hby at_248) (by decide) rfl ?_
        exact own_retNH X336 hx hZ hh336 HH333 hEL hlocks hret (by simp) (hb hby at_249) (by decide) (by decide) (by decide) ⟨rfl, N336⟩
    · refine own_iconst X42 hx (1 : Int32) (hb hby at_129) (by decide) rfl ?_
      refine own_goto X42 hx (hb hby at_130) (by decide) rfl ?_
      refine own_istore X42 hx #[.val (.int p1), .val (.int p2), .val (.int p3), .val (.int p4), .val (.int p5), .val (.ref b1), .val (.ref b9), .val (.ref b15), .val (.ref b22), .val (.ref b29), .val (.ref a42), .val (.int (p1 &&& (3 : Int32))), .val .null, .val (.int (1 : Int32)), .unset, .unset, .unset, .unset] (hb hby at_134) rfl rfl ?_
      refine own_new X42 hx hZ hown (hw _ (List.mem_of_getElem? (i := 47) rfl)) (hw _ (List.mem_of_getElem? (i := 48) rfl)) (hw _ (List.mem_of_getElem? (i := 49) rfl)) rfl (hb hby at_136) (by decide) (by decide) rfl ?_
      intro T338 h338 b338 X338 e338 g338 E338 A338 D338
      have f339 := (f41.keep Kq42 all0)
      have g_b338 : n0 ≤ b338 := Nat.le_trans (own_oz f339) (Nat.le_of_eq g338.symm)
      have HH340 := HH43.ext E338
      have Fb338_modCount : Fld Z h338 b338 "java/util/AbstractList" "modCount" "I" (.int (0 : Int32)) := D338 (Or.inl (hw _ (List.mem_of_getElem? (i := 67) rfl))) (ty := .int) (by decide)
      have Fb338_elementData : Fld Z h338 b338 "java/util/ArrayList" "elementData" "[Ljava/lang/Object;" .null := D338 (Or.inl (hw _ (List.mem_of_getElem? (i := 70) rfl))) (ty := (.array (.object "java/lang/Object"))) (by decide)
      have Fb338_size : Fld Z h338 b338 "java/util/ArrayList" "size" "I" (.int (0 : Int32)) := D338 (Or.inl (hw _ (List.mem_of_getElem? (i := 102) rfl))) (ty := .int) (by decide)
      refine own_dup X338 hx (hb hby at_139) rfl rfl ?_
      have f341 := (f339.ext E338)
      refine own_special X338 hx hZ (y := (⟨"java/util/ArrayList", "<init>", "()V"⟩ : MethodName)) rfl hown (hw _ (List.mem_of_getElem? (i := 50) rfl)) (hw _ (List.mem_of_getElem? (i := 51) rfl)) (hw _ (List.mem_of_getElem? (i := 49) rfl)) (hw _ (List.mem_of_getElem? (i := 52) rfl)) (by decide) e338 (by decide) (W := 1) (by decide) (by decide) (by decide) [] [(.ref b338)] (by rw [hml]; rfl) (a := b338) (own_ali l Z a0 hw b338 de kd h338 n0 f341 g_b338 SD VD A338 D338) own_pd4 rfl rfl rfl (hb hby at_140) rfl ?_
      intro v342 T342 L342 X342 hQ342
      obtain ⟨rfl, Nq342, Kq342, Al342⟩ := hQ342
      have N342 := Fr.app N42 Nq342
      have HH343 := HH340.keep Kq342 (sfS (Safe.exa hZ.alike A338 (by decide) (by decide)) sf0)
      obtain ⟨El342, Ml342, Dl342, Sl342⟩ := Al342
      show own_Ends p e below _ (T342.setTop (mkF m 143 #[.val (.int p1), .val (.int p2), .val (.int p3), .val (.int p4), .val (.int p5), .val (.ref b1), .val (.ref b9), .val (.ref b15), .val (.ref b22), .val (.ref b29), .val (.ref a42), .val (.int (p1 &&& (3 : Int32))), .val .null, .val (.int (1 : Int32)), .unset, .unset, .unset, .unset] [(.ref b338)]))
      refine own_astore X342 hx #[.val (.int p1), .val (.int p2), .val (.int p3), .val (.int p4), .val (.int p5), .val (.ref b1), .val (.ref b9), .val (.ref b15), .val (.ref b22), .val (.ref b29), .val (.ref a42), .val (.int (p1 &&& (3 : Int32))), .val .null, .val (.int (1 : Int32)), .val (.ref b338), .unset, .unset, .unset] (hb hby at_143) rfl rfl rfl ?_
      refine own_aconst_null X342 hx (hb hby at_145) rfl ?_
      refine own_astore X342 hx #[.val (.int p1), .val (.int p2), .val (.int p3), .val (.int p4), .val (.int p5), .val (.ref b1), .val (.ref b9), .val (.ref b15), .val (.ref b22), .val (.ref b29), .val (.ref a42), .val (.int (p1 &&& (3 : Int32))), .val .null, .val (.int (1 : Int32)), .val (.ref b338), .val .null, .unset, .unset] (hb hby at_146) rfl rfl rfl ?_
      refine own_iload X342 hx (hb hby at_148) rfl rfl ?_
      refine own_iconst X342 hx (1 : Int32) (hb hby at_150) (by decide) rfl ?_
      refine own_iand X342 hx (hb hby at_151) rfl ?_
      refine own_if_eq X342 hx (hb hby at_152) (by decide) rfl rfl (fun hc152_344 => ?_) (fun hc152_344 => ?_)
      · refine own_new X342 hx hZ hown (hw _ (List.mem_of_getElem? (i := 71) rfl)) (hw _ (List.mem_of_getElem? (i := 72) rfl)) (hw _ (List.mem_of_getElem? (i := 73) rfl)) rfl (hb hby at_192) (by decide) (by decide) rfl ?_
        intro T345 h345 b345 X345 e345 g345 E345 A345 D345
        have f346 := (f341.keep Kq342 (allS g_b338 all0))
        have g_b345 : n0 ≤ b345 := Nat.le_trans (own_oz f346) (Nat.le_of_eq g345.symm)
        have HH347 := HH343.ext E345
        have Fb345_name : Fld Z h345 b345 "com/example/ledgerleaf/ledgerleaf/Element" "name" "Ljava/lang/String;" .null := D345 (Or.inr (hw _ (List.mem_of_getElem? (i := 84) rfl))) (ty := (.object "java/lang/String")) (by decide)
        have Fb345_text : Fld Z h345 b345 "com/example/ledgerleaf/ledgerleaf/Element" "text" "Ljava/lang/String;" .null := D345 (Or.inr (hw _ (List.mem_of_getElem? (i := 86) rfl))) (ty := (.object "java/lang/String")) (by decide)
        have Fb345_children : Fld Z h345 b345 "com/example/ledgerleaf/ledgerleaf/Element" "children" "Ljava/util/List;" .null := D345 (Or.inr (hw _ (List.mem_of_getElem? (i := 88) rfl))) (ty := (.object "java/util/List")) (by decide)
        refine own_dup X345 hx (hb hby at_195) rfl rfl ?_
        refine own_aload X345 hx (hb hby at_196) rfl rfl rfl ?_
        refine own_aload X345 hx (hb hby at_198) rfl rfl rfl ?_
        refine own_aload X345 hx (hb hby at_200) rfl rfl rfl ?_
        refine own_special X345 hx hZ (y := (⟨"com/example/ledgerleaf/ledgerleaf/Element", "<init>", "(Ljava/lang/String;Ljava/lang/String;Ljava/util/List;)V"⟩ : MethodName)) rfl hown (hw _ (List.mem_of_getElem? (i := 74) rfl)) (hw _ (List.mem_of_getElem? (i := 75) rfl)) (hw _ (List.mem_of_getElem? (i := 73) rfl)) (hw _ (List.mem_of_getElem? (i := 76) rfl)) (by decide) e345 (by decide) (W := 1) (by decide) (by decide) (by decide) [(.ref a42), .null, (.ref b338)] [(.ref b345)] (by rw [hml]; rfl) (a := b345) (own_elN l Z a0 hw b345 a42 b338 h345 n0 g_b345 A345 D345) own_pd11 rfl rfl rfl (hb hby at_202) rfl ?_
        intro v348 T348 L348 X348 hQ348
        obtain ⟨rfl, Nq348, Kq348, Ee348, Ft348⟩ := hQ348
        have N348 := Fr.app N342 Nq348
        have HH349 := HH347.keep Kq348 (sfS (Safe.exa hZ.alike A345 (by decide) (by decide)) sf0)
        show own_Ends p e below _ (T348.setTop (mkF m 205 #[.val (.int p1), .val (.int p2), .val (.int p3), .val (.int p4), .val (.int p5), .val (.ref b1), .val (.ref b9), .val (.ref b15), .val (.ref b22), .val (.ref b29), .val (.ref a42), .val (.int (p1 &&& (3 : Int32))), .val .null, .val (.int (1 : Int32)), .val (.ref b338), .val .null, .unset, .unset] [(.ref b345)]))
        refine own_astore X348 hx #[.val (.int p1), .val (.int p2), .val (.int p3), .val (.int p4), .val (.int p5), .val (.ref b1), .val (.ref b9), .val (.ref b15), .val (.ref b22), .val (.ref b29), .val (.ref a42), .val (.int (p1 &&& (3 : Int32))), .val .null, .val (.int (1 : Int32)), .val (.ref b338), .val .null, .val (.ref b345), .unset] (hb hby at_205) rfl rfl rfl ?_
        refine own_iload X348 hx (hb hby at_207) rfl rfl ?_
        refine own_ifT X348 hx (hb hby at_209) (by decide) rfl (teq hc89_44).1 ?_
        refine own_iconst X348 hx (0 : Int32) (hb hby at_216) (by decide) rfl ?_
        refine own_istore X348 hx #[.val (.int p1), .val (.int p2), .val (.int p3), .val (.int p4), .val (.int p5), .val (.ref b1), .val (.ref b9), .val (.ref b15), .val (.ref b22), .val (.ref b29), .val (.ref a42), .val (.int (p1 &&& (3 : Int32))), .val .null, .val (.int (1 : Int32)), .val (.ref b338), .val .null, .val (.ref b345), .val (.int (0 : Int32))] (hb hby at_217) rfl rfl ?_
        refine own_aload X348 hx (hb hby at_219) rfl rfl rfl ?_
        refine own_virtual X348 hx hZ (y := (⟨"com/example/ledgerleaf/ledgerleaf/Element", "holdsText", "()Z"⟩ : MethodName)) (z := (⟨"com/example/ledgerleaf/ledgerleaf/Element", "holdsText", "()Z"⟩ : MethodName)) hown (hw _ (List.mem_of_getElem? (i := 89) rfl)) (hw _ (List.mem_of_getElem? (i := 90) rfl)) (notFace_of_selects (args := #[]) (mvT hZ (hw _ (List.mem_of_getElem? (i := 92) rfl)))) (hw _ (List.mem_of_getElem? (i := 92) rfl)) (hw _ (List.mem_of_getElem? (i := 91) rfl)) (hw _ (List.mem_of_getElem? (i := 73) rfl)) (hw _ (List.mem_of_getElem? (i := 93) rfl)) (by decide) rfl (by decide) (W := 0) (by decide) (by decide) (by decide) [] [] (by rw [hml]; rfl) Ee348 (own_holdN l Z a0 hw b345 T348.heap n0 Ft348) own_pd12 rfl rfl rfl (hb hby at_221) rfl ?_
        intro v350 T350 L350 X350 hQ350
        obtain ⟨rfl, Nq350, hh350⟩ := hQ350
        have N350 := Fr.app N348 Nq350
        show own_Ends p e below _ (T350.setTop (mkF m 224 #[.val (.int p1), .val (.int p2), .val (.int p3), .val (.int p4), .val (.int p5), .val (.ref b1), .val (.ref b9), .val (.ref b15), .val (.ref b22), .val (.ref b29), .val (.ref a42), .val (.int (p1 &&& (3 : Int32))), .val .null, .val (.int (1 : Int32)), .val (.ref b338), .val .null, .val (.ref b345), .val (.int (0 : Int32))] [(.int (0 : Int32))]))
        refine own_iload X350 hx (hb hby at_224) rfl rfl ?_
        refine own_icmpT X350 hx (hb hby at_226) (by decide) rfl (by decide) ?_
        refine own_aload X350 hx (hb hby at_231) rfl rfl rfl ?_
        refine own_ifnullT X350 hx (hb hby at_233) (by decide) rfl ?_
        refine own_iconst X350 hx (1 : Int32) (hb hby at_248) (by decide) rfl ?_
        exact own_retNH X350 hx hZ hh350 HH349 hEL hlocks hret (by simp) (hb hby at_249) (by decide) (by decide) (by decide) ⟨rfl, N350⟩
      · refine own_new X342 hx hZ hown (hw _ (List.mem_of_getElem? (i := 71) rfl)) (hw _ (List.mem_of_getElem? (i := 72) rfl)) (hw _ (List.mem_of_getElem? (i := 73) rfl)) rfl (hb hby at_155) (by decide) (by decide) rfl ?_
        intro T351 h351 b351 X351 e351 g351 E351 A351 D351
        have f352 := (f341.keep Kq342 (allS g_b338 all0))
        have g_b351 : n0 ≤ b351 := Nat.le_trans (own_oz f352) (Nat.le_of_eq g351.symm)
        have HH353 := HH343.ext E351
        have Fb351_name : Fld Z h351 b351 "com/example/ledgerleaf/ledgerleaf/Element" "name" "Ljava/lang/String;" .null := D351 (Or.inr (hw _ (List.mem_of_getElem? (i := 84) rfl))) (ty := (.object "java/lang/String")) (by decide)
        have Fb351_text : Fld Z h351 b351 "com/example/ledgerleaf/ledgerleaf/Element" "text" "Ljava/lang/String;" .null := D351 (Or.inr (hw _ (List.mem_of_getElem? (i := 86) rfl))) (ty := (.object "java/lang/String")) (by decide)
        have Fb351_children : Fld Z h351 b351 "com/example/ledgerleaf/ledgerleaf/Element" "children" "Ljava/util/List;" .null := D351 (Or.inr (hw _ (List.mem_of_getElem? (i := 88) rfl))) (ty := (.object "java/util/List")) (by decide)
        refine own_dup X351 hx (hb hby at_158) rfl rfl ?_
        refine own_aload X351 hx (hb hby at_159) rfl rfl rfl ?_
        refine own_iload X351 hx (hb hby at_161) rfl rfl ?_
        refine own_ifF X351 hx (hb hby at_163) rfl (by decide) ?_
        refine own_aload X351 hx (hb hby at_166) rfl rfl rfl ?_
        refine own_goto X351 hx (hb hby at_168) (by decide) rfl ?_
        refine own_new X351 hx hZ hown (hw _ (List.mem_of_getElem? (i := 47) rfl)) (hw _ (List.mem_of_getElem? (i := 48) rfl)) (hw _ (List.mem_of_getElem? (i := 49) rfl)) e351 (hb hby at_172) (by decide) (by decide) rfl ?_
        intro T354 h354 b354 X354 e354 g354 E354 A354 D354
        have f355 := (f352.ext E351)
        have g_b354 : n0 ≤ b354 := Nat.le_trans (own_oz f355) (Nat.le_of_eq g354.symm)
        have HH356 := HH353.ext E354
        have Fb354_modCount : Fld Z h354 b354 "java/util/AbstractList" "modCount" "I" (.int (0 : Int32)) := D354 (Or.inl (hw _ (List.mem_of_getElem? (i := 67) rfl))) (ty := .int) (by decide)
        have Fb354_elementData : Fld Z h354 b354 "java/util/ArrayList" "elementData" "[Ljava/lang/Object;" .null := D354 (Or.inl (hw _ (List.mem_of_getElem? (i := 70) rfl))) (ty := (.array (.object "java/lang/Object"))) (by decide)
        have Fb354_size : Fld Z h354 b354 "java/util/ArrayList" "size" "I" (.int (0 : Int32)) := D354 (Or.inl (hw _ (List.mem_of_getElem? (i := 102) rfl))) (ty := .int) (by decide)
        refine own_dup X354 hx (hb hby at_175) rfl rfl ?_
        have f357 := (f355.ext E354)
        refine own_special X354 hx hZ (y := (⟨"java/util/ArrayList", "<init>", "()V"⟩ : MethodName)) rfl hown (hw _ (List.mem_of_getElem? (i := 50) rfl)) (hw _ (List.mem_of_getElem? (i := 51) rfl)) (hw _ (List.mem_of_getElem? (i := 49) rfl)) (hw _ (List.mem_of_getElem? (i := 52) rfl)) (by decide) e354 (by decide) (W := 5) (by decide) (by decide) (by decide) [] [(.ref b354), (.ref b22), (.ref a42), (.ref b351), (.ref b351)] (by rw [hml]; rfl) (a := b354) (own_ali l Z a0 hw b354 de kd h354 n0 f357 g_b354 SD VD A354 D354) own_pd4 rfl rfl rfl (hb hby at_176) rfl ?_
        intro v358 T358 L358 X358 hQ358
        obtain ⟨rfl, Nq358, Kq358, Al358⟩ := hQ358
        have N358 := Fr.app N342 Nq358
        have HH359 := HH356.keep Kq358 (sfS (Safe.exa hZ.alike A354 (by decide) (by decide)) sf0)
        obtain ⟨El358, Ml358, Dl358, Sl358⟩ := Al358
        show own_Ends p e below _ (T358.setTop (mkF m 179 #[.val (.int p1), .val (.int p2), .val (.int p3), .val (.int p4), .val (.int p5), .val (.ref b1), .val (.ref b9), .val (.ref b15), .val (.ref b22), .val (.ref b29), .val (.ref a42), .val (.int (p1 &&& (3 : Int32))), .val .null, .val (.int (1 : Int32)), .val (.ref b338), .val .null, .unset, .unset] [(.ref b354), (.ref b22), (.ref a42), (.ref b351), (.ref b351)]))
        have f360 := ((A351.ext E354).keep Kq358)
        refine own_special X358 hx hZ (y := (⟨"com/example/ledgerleaf/ledgerleaf/Element", "<init>", "(Ljava/lang/String;Ljava/lang/String;Ljava/util/List;)V"⟩ : MethodName)) rfl hown (hw _ (List.mem_of_getElem? (i := 74) rfl)) (hw _ (List.mem_of_getElem? (i := 75) rfl)) (hw _ (List.mem_of_getElem? (i := 73) rfl)) (hw _ (List.mem_of_getElem? (i := 76) rfl)) (by decide) rfl (by decide) (W := 1) (by decide) (by decide) (by decide) [(.ref a42), (.ref b22), (.ref b354)] [(.ref b351)] (by rw [hml]; rfl) (a := b351) (own_elR l Z a0 hw b351 a42 b22 b354 T358.heap n0 g_b351 f360 (fun L p => (((D351 L p).ext E354).keep Kq358 (ninS (Nat.ne_of_lt (Nat.lt_of_lt_of_le A351.lt (Nat.le_of_eq g354.symm))) nin0)))) own_pd11 rfl rfl rfl (hb hby at_179) rfl ?_
        intro v361 T361 L361 X361 hQ361
        obtain ⟨rfl, Nq361, Kq361, Ee361, Ft361⟩ := hQ361
        have N361 := Fr.app N358 Nq361
        have HH362 := HH359.keep Kq361 (sfS (Safe.exa hZ.alike f360 (by decide) (by decide)) sf0)
        show own_Ends p e below _ (T361.setTop (mkF m 182 #[.val (.int p1), .val (.int p2), .val (.int p3), .val (.int p4), .val (.int p5), .val (.ref b1), .val (.ref b9), .val (.ref b15), .val (.ref b22), .val (.ref b29), .val (.ref a42), .val (.int (p1 &&& (3 : Int32))), .val .null, .val (.int (1 : Int32)), .val (.ref b338), .val .null, .unset, .unset] [(.ref b351)]))
        refine own_astore X361 hx #[.val (.int p1), .val (.int p2), .val (.int p3), .val (.int p4), .val (.int p5), .val (.ref b1), .val (.ref b9), .val (.ref b15), .val (.ref b22), .val (.ref b29), .val (.ref a42), .val (.int (p1 &&& (3 : Int32))), .val .null, .val (.int (1 : Int32)), .val (.ref b338), .val (.ref b351), .unset, .unset] (hb hby at_182) rfl rfl rfl ?_
        refine own_aload X361 hx (hb hby at_184) rfl rfl rfl ?_
        refine own_aload X361 hx (hb hby at_186) rfl rfl rfl ?_
        have f363 := ((((El342.ext E351).ext E354).keep Kq358).keep Kq361)
        have f364 := ((f357.keep Kq358 (allS g_b354 all0)).keep Kq361 (allS g_b351 all0))
        have f365 := ((((Ml342.ext E351).ext E354).keep Kq358 (ninS (Nat.ne_of_lt (Nat.lt_of_lt_of_le (El342.ext E351).lt (Nat.le_of_eq g354.symm))) nin0)).keep Kq361 (ninS (Nat.ne_of_lt (Nat.lt_of_lt_of_le El342.lt (Nat.le_of_eq g351.symm))) nin0))
        have f366 := ((((Dl342.ext E351).ext E354).keep Kq358 (ninS (Nat.ne_of_lt (Nat.lt_of_lt_of_le (El342.ext E351).lt (Nat.le_of_eq g354.symm))) nin0)).keep Kq361 (ninS (Nat.ne_of_lt (Nat.lt_of_lt_of_le El342.lt (Nat.le_of_eq g351.symm))) nin0))
        have f367 := ((((Sl342.ext E351).ext E354).keep Kq358 (ninS (Nat.ne_of_lt (Nat.lt_of_lt_of_le (El342.ext E351).lt (Nat.le_of_eq g354.symm))) nin0)).keep Kq361 (ninS (Nat.ne_of_lt (Nat.lt_of_lt_of_le El342.lt (Nat.le_of_eq g351.symm))) nin0))
        refine own_virtual X361 hx hZ (y := (⟨"java/util/ArrayList", "add", "(Ljava/lang/Object;)Z"⟩ : MethodName)) (z := (⟨"java/util/ArrayList", "add", "(Ljava/lang/Object;)Z"⟩ : MethodName)) hown (hw _ (List.mem_of_getElem? (i := 94) rfl)) (hw _ (List.mem_of_getElem? (i := 95) rfl)) (notFace_of_selects (args := #[]) (mvT hZ (hw _ (List.mem_of_getElem? (i := 97) rfl)))) (hw _ (List.mem_of_getElem? (i := 97) rfl)) (hw _ (List.mem_of_getElem? (i := 96) rfl)) (hw _ (List.mem_of_getElem? (i := 49) rfl)) (hw _ (List.mem_of_getElem? (i := 98) rfl)) (by decide) rfl (by decide) (W := 0) (by decide) (by decide) (by decide) [(.ref b351)] [] (by rw [hml]; rfl) f363 (own_addE l Z a0 hw b338 b351 de kd (0 : Int32) T361.heap n0 f364 g_b338 SD VD ⟨f363, f365, f366, f367⟩ (Ins.of_exa Ee361 (hw _ (List.mem_of_getElem? (i := 124) rfl)))) own_pd13 rfl rfl rfl (hb hby at_188) rfl ?_
        intro v368 T368 L368 X368 hQ368
        obtain ⟨rfl, Nq368, Kq368, b368, k368, g_b368, sz_b368, Al368, V368, Ov368⟩ := hQ368
        have N368 := Fr.app N361 Nq368
        have HH369 := HH362.keep Kq368 (sfS (Safe.exa hZ.alike f363 (by decide) (by decide)) sf0)
        obtain ⟨El368, Ml368, Dl368, Sl368⟩ := Al368
        show own_Ends p e below _ (T368.setTop (mkF m 191 #[.val (.int p1), .val (.int p2), .val (.int p3), .val (.int p4), .val (.int p5), .val (.ref b1), .val (.ref b9), .val (.ref b15), .val (.ref b22), .val (.ref b29), .val (.ref a42), .val (.int (p1 &&& (3 : Int32))), .val .null, .val (.int (1 : Int32)), .val (.ref b338), .val (.ref b351), .unset, .unset] [(.int (1 : Int32))]))
        refine own_pop X368 hx (hb hby at_191) rfl rfl ?_
        refine own_new X368 hx hZ hown (hw _ (List.mem_of_getElem? (i := 71) rfl)) (hw _ (List.mem_of_getElem? (i := 72) rfl)) (hw _ (List.mem_of_getElem? (i := 73) rfl)) rfl (hb hby at_192) (by decide) (by decide) rfl ?_
        intro T370 h370 b370 X370 e370 g370 E370 A370 D370
        have f371 := (f364.keep Kq368 (allS g_b338 all0))
        have g_b370 : n0 ≤ b370 := Nat.le_trans (own_oz f371) (Nat.le_of_eq g370.symm)
        have HH372 := HH369.ext E370
        have Fb370_name : Fld Z h370 b370 "com/example/ledgerleaf/ledgerleaf/Element" "name" "Ljava/lang/String;" .null := D370 (Or.inr (hw _ (List.mem_of_getElem? (i := 84) rfl))) (ty := (.object "java/lang/String")) (by decide)
        have Fb370_text : Fld Z h370 b370 "com/example/ledgerleaf/ledgerleaf/Element" "text" "Ljava/lang/String;" .null := D370 (Or.inr (hw _ (List.mem_of_getElem? (i := 86) rfl))) (ty := (.object "java/lang/String")) (by decide)
        have Fb370_children : Fld Z h370 b370 "com/example/ledgerleaf/ledgerleaf/Element" "children" "Ljava/util/List;" .null := D370 (Or.inr (hw _ (List.mem_of_getElem? (i := 88) rfl))) (ty := (.object "java/util/List")) (by decide)
        refine own_dup X370 hx (hb hby at_195) rfl rfl ?_
        refine own_aload X370 hx (hb hby at_196) rfl rfl rfl ?_
        refine own_aload X370 hx (hb hby at_198) rfl rfl rfl ?_
        refine own_aload X370 hx (hb hby at_200) rfl rfl rfl ?_
        refine own_special X370 hx hZ (y := (⟨"com/example/ledgerleaf/ledgerleaf/Element", "<init>", "(Ljava/lang/String;Ljava/lang/String;Ljava/util/List;)V"⟩ : MethodName)) rfl hown (hw _ (List.mem_of_getElem? (i := 74) rfl)) (hw _ (List.mem_of_getElem? (i := 75) rfl)) (hw _ (List.mem_of_getElem? (i := 73) rfl)) (hw _ (List.mem_of_getElem? (i := 76) rfl)) (by decide) e370 (by decide) (W := 1) (by decide) (by decide) (by decide) [(.ref a42), .null, (.ref b338)] [(.ref b370)] (by rw [hml]; rfl) (a := b370) (own_elN l Z a0 hw b370 a42 b338 h370 n0 g_b370 A370 D370) own_pd11 rfl rfl rfl (hb hby at_202) rfl ?_
        intro v373 T373 L373 X373 hQ373
        obtain ⟨rfl, Nq373, Kq373, Ee373, Ft373⟩ := hQ373
        have N373 := Fr.app N368 Nq373
        have HH374 := HH372.keep Kq373 (sfS (Safe.exa hZ.alike A370 (by decide) (by decide)) sf0)
        show own_Ends p e below _ (T373.setTop (mkF m 205 #[.val (.int p1), .val (.int p2), .val (.int p3), .val (.int p4), .val (.int p5), .val (.ref b1), .val (.ref b9), .val (.ref b15), .val (.ref b22), .val (.ref b29), .val (.ref a42), .val (.int (p1 &&& (3 : Int32))), .val .null, .val (.int (1 : Int32)), .val (.ref b338), .val (.ref b351), .unset, .unset] [(.ref b370)]))
        refine own_astore X373 hx #[.val (.int p1), .val (.int p2), .val (.int p3), .val (.int p4), .val (.int p5), .val (.ref b1), .val (.ref b9), .val (.ref b15), .val (.ref b22), .val (.ref b29), .val (.ref a42), .val (.int (p1 &&& (3 : Int32))), .val .null, .val (.int (1 : Int32)), .val (.ref b338), .val (.ref b351), .val (.ref b370), .unset] (hb hby at_205) rfl rfl rfl ?_
        refine own_iload X373 hx (hb hby at_207) rfl rfl ?_
        refine own_ifT X373 hx (hb hby at_209) (by decide) rfl (teq hc89_44).1 ?_
        refine own_iconst X373 hx (0 : Int32) (hb hby at_216) (by decide) rfl ?_
        refine own_istore X373 hx #[.val (.int p1), .val (.int p2), .val (.int p3), .val (.int p4), .val (.int p5), .val (.ref b1), .val (.ref b9), .val (.ref b15), .val (.ref b22), .val (.ref b29), .val (.ref a42), .val (.int (p1 &&& (3 : Int32))), .val .null, .val (.int (1 : Int32)), .val (.ref b338), .val (.ref b351), .val (.ref b370), .val (.int (0 : Int32))] (hb hby at_217) rfl rfl ?_
        refine own_aload X373 hx (hb hby at_219) rfl rfl rfl ?_
        refine own_virtual X373 hx hZ (y := (⟨"com/example/ledgerleaf/ledgerleaf/Element", "holdsText", "()Z"⟩ : MethodName)) (z := (⟨"com/example/ledgerleaf/ledgerleaf/Element", "holdsText", "()Z"⟩ : MethodName)) hown (hw _ (List.mem_of_getElem? (i := 89) rfl)) (hw _ (List.mem_of_getElem? (i := 90) rfl)) (notFace_of_selects (args := #[]) (mvT hZ (hw _ (List.mem_of_getElem? (i := 92) rfl)))) (hw _ (List.mem_of_getElem? (i := 92) rfl)) (hw _ (List.mem_of_getElem? (i := 91) rfl)) (hw _ (List.mem_of_getElem? (i := 73) rfl)) (hw _ (List.mem_of_getElem? (i := 93) rfl)) (by decide) rfl (by decide) (W := 0) (by decide) (by decide) (by decide) [] [] (by rw [hml]; rfl) Ee373 (own_holdN l Z a0 hw b370 T373.heap n0 Ft373) own_pd12 rfl rfl rfl (hb hby at_221) rfl ?_
        intro v375 T375 L375 X375 hQ375
        obtain ⟨rfl, Nq375, hh375⟩ := hQ375
        have N375 := Fr.app N373 Nq375
        show own_Ends p e below _ (T375.setTop (mkF m 224 #[.val (.int p1), .val (.int p2), .val (.int p3), .val (.int p4), .val (.int p5), .val (.ref b1), .val (.ref b9), .val (.ref b15), .val (.ref b22), .val (.ref b29), .val (.ref a42), .val (.int (p1 &&& (3 : Int32))), .val .null, .val (.int (1 : Int32)), .val (.ref b338), .val (.ref b351), .val (.ref b370), .val (.int (0 : Int32))] [(.int (0 : Int32))]))
        refine own_iload X375 hx (hb hby at_224) rfl rfl ?_
        refine own_icmpT X375 hx (hb hby at_226) (by decide) rfl (by decide) ?_
        refine own_aload X375 hx (hb hby at_231) rfl rfl rfl ?_
        refine own_ifnullF X375 hx (hb hby at_233) rfl ?_
        refine own_aload X375 hx (hb hby at_236) rfl rfl rfl ?_
        have f376 := (((Ft361.keep Kq368 (ninS (Ne.symm (Nat.ne_of_lt (Nat.lt_of_lt_of_le El342.lt (Nat.le_of_eq g351.symm)))) nin0)).ext E370).keep Kq373 (ninS (Nat.ne_of_lt (Nat.lt_of_lt_of_le (Ee361.keep Kq368).lt (Nat.le_of_eq g370.symm))) nin0))
        have f378 := (((Ee361.keep Kq368).ext E370).keep Kq373)
        refine own_virtual X375 hx hZ (y := (⟨"com/example/ledgerleaf/ledgerleaf/Element", "holdsText", "()Z"⟩ : MethodName)) (z := (⟨"com/example/ledgerleaf/ledgerleaf/Element", "holdsText", "()Z"⟩ : MethodName)) hown (hw _ (List.mem_of_getElem? (i := 89) rfl)) (hw _ (List.mem_of_getElem? (i := 90) rfl)) (notFace_of_selects (args := #[]) (mvT hZ (hw _ (List.mem_of_getElem? (i := 92) rfl)))) (hw _ (List.mem_of_getElem? (i := 92) rfl)) (hw _ (List.mem_of_getElem? (i := 91) rfl)) (hw _ (List.mem_of_getElem? (i := 73) rfl)) (hw _ (List.mem_of_getElem? (i := 93) rfl)) (by decide) hh375 (by decide) (W := 0) (by decide) (by decide) (by decide) [] [] (by rw [hml]; rfl) f378 (own_holdR l Z a0 hw b351 b22 T373.heap n0 f376) own_pd12 rfl rfl rfl (hb hby at_238) rfl ?_
        intro v377 T377 L377 X377 hQ377
        obtain ⟨rfl, Nq377, hh377⟩ := hQ377
        have N377 := Fr.app N375 Nq377
        show own_Ends p e below _ (T377.setTop (mkF m 241 #[.val (.int p1), .val (.int p2), .val (.int p3), .val (.int p4), .val (.int p5), .val (.ref b1), .val (.ref b9), .val (.ref b15), .val (.ref b22), .val (.ref b29), .val (.ref a42), .val (.int (p1 &&& (3 : Int32))), .val .null, .val (.int (1 : Int32)), .val (.ref b338), .val (.ref b351), .val (.ref b370), .val (.int (0 : Int32))] [(.int (1 : Int32))]))
        refine own_iload X377 hx (hb hby at_241) rfl rfl ?_
        refine own_icmpT X377 hx (hb hby at_243) (by decide) rfl (by decide) ?_
        refine own_iconst X377 hx (1 : Int32) (hb hby at_248) (by decide) rfl ?_
        exact own_retNH X377 hx hZ hh377 HH374 hEL hlocks hret (by simp) (hb hby at_249) (by decide) (by decide) (by decide) ⟨rfl, N377⟩
set_option maxRecDepth 65536 in
set_option maxHeartbeats 40000000 in
theorem comes_1 {Post : Tables → Env → Array Value → State → Outcome → State → Prop} (hpost : ∀ tb e args s v u, (limb_1_1.after args s (.returned v) u = true ∧ limb_1_2.after args s (.returned v) u = true ∧ True) → ReturnedEndW s (.returned v) u (Jvm.fieldLocs frame_1_writes args s ++ Jvm.arrayLocs frame_1_arrays args s ++ Jvm.staticLocs frame_1_statics s) 40 1216 → Post tb e args s (.returned v) u) :
    ArmFor flags0 classFile x code maxLocals ret World_1 tables_1 room_1 Calls_1 rest_1 Pre_1 Post := by
  intro l hfl _ _ p e ha hc hk s m args below hf hA hF happ hP
  obtain ⟨hcalls, hrest, hpre⟩ := hP
  obtain ⟨-, -, -, hnamed, -, -, -, hat⟩ := (Spec.applies_iff hf).mp happ
  obtain ⟨hg, hn⟩ := and_e (Cond.before_iff.mp (show (Jvm.Cond.and given_1 narrow_1).before args s = true from hpre))
  obtain ⟨k1a, k1b⟩ := and_e hg
  obtain ⟨k2a, k2b⟩ := and_e k1b
  obtain ⟨k3a, k3b⟩ := and_e k2b
  obtain ⟨k4a, k4b⟩ := and_e k3b
  obtain ⟨k5a, k5b⟩ := and_e k4b
  obtain ⟨w0, w1, w2, w3, w4, rfl⟩ : ∃ w0 w1 w2 w3 w4 : Value, args = #[w0, w1, w2, w3, w4] := by
    have hs : args.size = 5 := by simpa [Cond.value, given_1] using k1a
    obtain ⟨L⟩ := args
    match L, hs with
    | [w0, w1, w2, w3, w4], _ => exact ⟨w0, w1, w2, w3, w4, rfl⟩
  have hw := fun d (hd : d ∈ tables_1) => atoms_spec (ws := Jvm.Cond.code x code maxLocals ret :: tables_1) hat d (List.mem_cons_of_mem _ hd)
  have hfit : Fit s := fun {y c} hc i hi => by
    obtain ⟨ha, rfl⟩ := Array.getElem?_eq_some_iff.mp hc
    have q := List.all_eq_true.mp ((Array.all_eq_true_iff_forall_mem.mp hF) _ (Array.getElem_mem ha)) i (List.mem_range.mpr hi)
    simpa [Array.getElem?_eq_getElem hi] using q
  obtain ⟨hsets, hown0⟩ := atoms_of _ (rest_1_c_eq ▸ (show rest_1_c.before _ s = true from hrest))
  obtain ⟨i0, ei0⟩ := is_v k2a
  obtain rfl : w0 = (.int i0) := Option.some.inj ei0
  obtain ⟨i1, ei1⟩ := is_v k3a
  obtain rfl : w1 = (.int i1) := Option.some.inj ei1
  obtain ⟨i2, ei2⟩ := is_v k4a
  obtain rfl : w2 = (.int i2) := Option.some.inj ei2
  obtain ⟨i3, ei3⟩ := is_v k5a
  obtain rfl : w3 = (.int i3) := Option.some.inj ei3
  obtain ⟨i4, ei4⟩ := is_v k5b
  obtain rfl : w4 = (.int i4) := Option.some.inj ei4
  have nzc := not_v (Cond.before_iff.mp (hsets _ (List.mem_of_getElem? (i := 2) rfl)))
  obtain ⟨zc, ezc⟩ := is_v (Cond.before_iff.mp (hsets _ (List.mem_of_getElem? (i := 1) rfl)))
  have SC := Sta.start ezc (Or.inl (hsets _ (List.mem_of_getElem? (i := 0) rfl)))
  have hzc : ¬ (zc = (0 : Int32)) := gotF (Cond.eq_ints ezc (Term.int_eval (0))) nzc
  have hEL : EW s _ consts_1 := (EW.cons (hw _ (List.mem_of_getElem? (i := 30) rfl)) (by decide) EW.nil)
  have hCH := CHv.start hEL (fun p hp => (hcalls.1 p hp :)) (show Jvm.Lit.compactW.before _ s = true from (hsets _ (List.mem_of_getElem? (i := 2) rfl))) (hw _ (List.mem_of_getElem? (i := 19) rfl)) (hw _ (List.mem_of_getElem? (i := 2) rfl))
  obtain ⟨de, ede⟩ := arr_v (Cond.before_iff.mp (hsets _ (List.mem_of_getElem? (i := 15) rfl)))
  have SD := Sta.start ede (Or.inr ⟨(hw _ (List.mem_of_getElem? (i := 49) rfl)), (hsets _ (List.mem_of_getElem? (i := 11) rfl))⟩)
  obtain ⟨kd, VD⟩ := own_arr0 hfit ede (Cond.before_iff.mp (hsets _ (List.mem_of_getElem? (i := 15) rfl))) (Cond.before_iff.mp (hsets _ (List.mem_of_getElem? (i := 17) rfl)))
  obtain ⟨n, o, h1, h2, h3, _, L, rfl, ⟨rfl, N⟩, hC, hq⟩ := own_law l s _ hw i0 i1 i2 i3 i4 zc de kd s.heap s.heap.size hEL (Old.start s) SC hzc SD VD tables_1 p e ha hc hk s m _ below hf ((Spec.applies_iff_loose hf).mp happ).1 ⟨rfl, State.Warmed39.refl s, rfl, hCH⟩ trivial
  refine ⟨n, _, h1, h2, h3, hpost _ _ _ _ _ _ ⟨Cond.after_iff.mpr rfl, Cond.after_iff.mpr (eq_i res_at (Term.int_eval (1)) rfl), trivial⟩ ⟨hq.1, hq.2.1, hq.2.2.1, (hq.2.2.2.sift fun y hy => Or.inr (N y hy)).mono (by decide) (by decide)⟩⟩
theorem main_1_1 : Claimed_1_1 := comes_1 fun _ _ _ _ _ _ h hF => ⟨h.1, hF⟩
theorem main_1_2 : Claimed_1_2 := comes_1 fun _ _ _ _ _ _ h hF => ⟨h.2.1, hF⟩
end Jvm.Pilot.@@N@@
namespace Jvm.Pilot.@@N@@
open Jvm Jvm.ClassFile Sem Op Lib Jvm.Free Jvm.Stand Jvm.Pilot.@@N@@.Jvm.D
/-! MADE BY PROGRAM (witnessworld.py) out of the Statement's table words and the real class files: 31 classes; the members and pool entries that the words name. The judged class is class 1, her method 1. -/
namespace start1
open Jvm.ClassFile
def u (s : String) : CpInfo := .utf8 (stringToUtf16 s)
/-- a pool by its gaps: so many unusable entries, then the entry; so many at the end -/
def gap : Nat → List CpInfo → List CpInfo
  | 0, r => r
  | n + 1, r => .unusable :: gap n r
def poolList (es : List (Nat × CpInfo)) (last : Nat) : List CpInfo := es.foldr (fun e r => gap e.1 (e.2 :: r)) (gap last [])
def pool (es : List (Nat × CpInfo)) (last : Nat) : Array CpInfo := ⟨poolList es last⟩
def fileOf (pool : Array CpInfo) (this : Nat) (attrs : Array Attribute := #[]) (ms : Array MethodInfo := #[]) (fl : Nat := 33) (sup : Nat := 0) (ifs : Array Nat := #[]) (fds : Array FieldInfo := #[]) : ClassFile where
  minorVersion := 0
  majorVersion := 65
  constantPool := pool
  accessFlags := fl
  thisClass := this
  superClass := sup
  interfaces := ifs
  fields := fds
  methods := ms
  attributes := attrs
def plain (name : String) (sup : Option ClassId) : Class where
  name := name
  kind := .ordinary
  loader := none
  accessFlags := 33
  super := sup
  interfaces := #[]
  cf := none
  fields := #[]
  methods := #[]
  instanceTypes := #[]
  staticTypes := #[]
  resolved := #[]
  callSites := []
  init := .initialized
  statics := none
  mirror := none

def pool0 : Array CpInfo := pool [(5, u "<init>"), (0, u "()V"), (1, .class_ 10), (1, u "java/lang/Object")] 113

def k0c0 : Code := { maxStack := 0, maxLocals := 1, code := object_method_1_code, exceptionTable := #[], attributes := #[] }
def k0m0 : Method := { name := "<init>", desc := "()V", sig := { parameters := [], returnType := none }, accessFlags := 1, code := some k0c0 }
/-- java/lang/Object -/
def k0 : Class := { plain "java/lang/Object" none with
  accessFlags := 33
  interfaces := #[]
  cf := some (fileOf pool0 8 #[] #[{ accessFlags := 1, nameIndex := 5, descriptorIndex := 6, attributes := #[] }] 33 0 #[] #[])
  fields := #[]
  methods := #[k0m0]
  instanceTypes := #[]
  staticTypes := #[]
  resolved := Array.replicate 124 none
  statics := none }

def pool1 : Array CpInfo := pool [(2, .class_ 4), (0, .nameAndType 5 6), (0, u "java/lang/Object"), (0, u "<init>"), (0, u "()V"), (0, .class_ 8), (0, u "java/lang/String"), (0, .methodref 7 10), (0, .nameAndType 5 11), (0, u "([C)V"), (0, .methodref 7 13), (0, .nameAndType 14 15), (0, u "valueOf"), (0, u "(C)Ljava/lang/String;"), (0, .class_ 17), (0, u "java/util/ArrayList"), (0, .methodref 16 3), (0, .class_ 20), (0, u "com/example/ledgerleaf/ledgerleaf/Element"), (0, .methodref 19 22), (0, .nameAndType 5 23), (0, u "(Ljava/lang/String;Ljava/lang/String;Ljava/util/List;)V"), (0, .methodref 16 25), (0, .nameAndType 26 27), (0, u "add"), (0, u "(Ljava/lang/Object;)Z"), (0, .methodref 19 29), (0, .nameAndType 30 31), (0, u "holdsText"), (0, u "()Z"), (0, .class_ 33), (0, u "com/example/ledgerleaf/ledgerleaf/ElementHoldsTextPinLaw"), (2, u "law"), (0, u "(IIIII)Z")] 5

def k1m0 : Method := { name := "<init>", desc := "()V", sig := { parameters := [], returnType := none }, accessFlags := 1, code := none }
def k1c1 : Code := { maxStack := 6, maxLocals := 18, code := code, exceptionTable := #[], attributes := #[] }
def k1m1 : Method := { name := "law", desc := "(IIIII)Z", sig := { parameters := [.int, .int, .int, .int, .int], returnType := some .boolean }, accessFlags := 9, code := some k1c1 }
/-- com/example/ledgerleaf/ledgerleaf/ElementHoldsTextPinLaw -/
def k1 : Class := { plain "com/example/ledgerleaf/ledgerleaf/ElementHoldsTextPinLaw" (some 0) with
  accessFlags := 49
  interfaces := #[]
  cf := some (fileOf pool1 32 #[] #[{ accessFlags := 1, nameIndex := 5, descriptorIndex := 6, attributes := #[] }, { accessFlags := 9, nameIndex := 36, descriptorIndex := 37, attributes := #[] }] 49 2 #[] #[])
  fields := #[]
  methods := #[k1m0, k1m1]
  instanceTypes := #[]
  staticTypes := #[]
  resolved := Array.replicate 43 none
  statics := none }

def pool2 : Array CpInfo := pool [(1, .class_ 2), (0, u "java/io/Serializable"), (0, .class_ 4), (0, u "java/lang/Object")] 2

/-- java/io/Serializable -/
def k2 : Class := { plain "java/io/Serializable" (some 0) with
  accessFlags := 1537
  interfaces := #[]
  cf := some (fileOf pool2 1 #[] #[] 1537 3 #[] #[])
  fields := #[]
  methods := #[]
  instanceTypes := #[]
  staticTypes := #[]
  resolved := Array.replicate 7 none
  statics := none }

def pool3 : Array CpInfo := pool [(1, .class_ 2), (0, u "java/lang/Comparable"), (0, .class_ 4), (0, u "java/lang/Object")] 7

/-- java/lang/Comparable -/
def k3 : Class := { plain "java/lang/Comparable" (some 0) with
  accessFlags := 1537
  interfaces := #[]
  cf := some (fileOf pool3 1 #[] #[] 1537 3 #[] #[])
  fields := #[]
  methods := #[]
  instanceTypes := #[]
  staticTypes := #[]
  resolved := Array.replicate 12 none
  statics := none }

def pool4 : Array CpInfo := pool [(2, .class_ 4), (1, u "java/lang/CharSequence"), (42, .class_ 48), (0, u "java/lang/CharSequence$1CodePointIterator"), (10, .class_ 60), (0, u "java/lang/CharSequence$1CharIterator"), (5, .class_ 67), (0, u "java/lang/Object")] 63

/-- java/lang/CharSequence -/
def k4 : Class := { plain "java/lang/CharSequence" (some 0) with
  accessFlags := 1537
  interfaces := #[]
  cf := some (fileOf pool4 2 #[.nestMembers #[47, 59]] #[] 1537 66 #[] #[])
  fields := #[]
  methods := #[]
  instanceTypes := #[]
  staticTypes := #[]
  resolved := Array.replicate 131 none
  statics := none }

def pool5 : Array CpInfo := pool [(1, .class_ 2), (0, u "java/lang/constant/Constable"), (0, .class_ 4), (0, u "java/lang/Object")] 6

/-- java/lang/constant/Constable -/
def k5 : Class := { plain "java/lang/constant/Constable" (some 0) with
  accessFlags := 1537
  interfaces := #[]
  cf := some (fileOf pool5 1 #[] #[] 1537 3 #[] #[])
  fields := #[]
  methods := #[]
  instanceTypes := #[]
  staticTypes := #[]
  resolved := Array.replicate 11 none
  statics := none }

def pool6 : Array CpInfo := pool [(1, .class_ 2), (0, u "java/lang/constant/ConstantDesc"), (0, .class_ 4), (0, u "java/lang/Object")] 32

/-- java/lang/constant/ConstantDesc -/
def k6 : Class := { plain "java/lang/constant/ConstantDesc" (some 0) with
  accessFlags := 1537
  interfaces := #[]
  cf := some (fileOf pool6 1 #[] #[] 1537 3 #[] #[])
  fields := #[]
  methods := #[]
  instanceTypes := #[]
  staticTypes := #[]
  resolved := Array.replicate 37 none
  statics := none }

def pool7 : Array CpInfo := pool [(1, .methodref 2 3), (0, .class_ 4), (0, .nameAndType 5 6), (0, u "java/lang/Object"), (0, u "<init>"), (0, u "()V"), (0, .string 8), (0, u ""), (0, .fieldref 10 11), (0, .class_ 12), (0, .nameAndType 13 14), (0, u "java/lang/String"), (0, u "value"), (0, u "[B"), (0, .fieldref 10 16), (0, .nameAndType 17 18), (0, u "coder"), (0, u "B"), (2, u "hash"), (0, u "I"), (2, u "hashIsZero"), (0, u "Z"), (0, .methodref 10 28), (0, .nameAndType 5 29), (0, u "([CIILjava/lang/Void;)V"), (8, .fieldref 10 39), (0, .nameAndType 40 26), (0, u "COMPACT_STRINGS"), (1, .class_ 44), (1, u "java/lang/StringUTF16"), (0, u "compress"), (1, .methodref 42 48), (0, .nameAndType 49 50), (0, u "coderFromArrayLen"), (0, u "([BI)B"), (2, u "toBytes"), (53, .class_ 109), (1, u "java/lang/StringLatin1"), (67, .methodref 42 178), (0, .nameAndType 45 179), (0, u "([CII)[B"), (29, .methodref 10 210), (0, .nameAndType 5 211), (0, u "([BB)V"), (157, u "(C)Z"), (205, .class_ 576), (0, u "java/lang/CharSequence"), (22, u "CASE_INSENSITIVE_ORDER"), (0, u "Ljava/util/Comparator;"), (181, u "valueOf"), (0, u "(C)Ljava/lang/String;"), (226, u "([C)V"), (4, .methodref 107 1016), (0, .nameAndType 1017 369), (0, u "canEncode"), (0, .methodref 107 1019), (0, .nameAndType 53 1020), (0, u "(C)[B"), (80, u "serialPersistentFields"), (0, u "[Ljava/io/ObjectStreamField;"), (0, .class_ 1104), (0, u "java/lang/String$CaseInsensitiveComparator"), (1, .class_ 1107), (0, u "java/io/Serializable"), (0, .class_ 1109), (0, u "java/lang/Comparable"), (0, .class_ 1111), (0, u "java/lang/constant/Constable"), (0, .class_ 1113), (0, u "java/lang/constant/ConstantDesc"), (2, u "serialVersionUID"), (0, u "J"), (3, u "REPL"), (0, u "C"), (2, u "LATIN1"), (1, u "UTF16")] 323

def k7m0 : Method := { name := "<init>", desc := "()V", sig := { parameters := [], returnType := none }, accessFlags := 1, code := none }
def k7c1 : Code := { maxStack := 5, maxLocals := 2, code := jdk_42_method_3_code, exceptionTable := #[], attributes := #[] }
def k7m1 : Method := { name := "<init>", desc := "([C)V", sig := { parameters := [(.array .char)], returnType := none }, accessFlags := 1, code := some k7c1 }
def k7c2 : Code := { maxStack := 4, maxLocals := 1, code := jdk_42_method_139_code, exceptionTable := #[], attributes := #[] }
def k7m2 : Method := { name := "valueOf", desc := "(C)Ljava/lang/String;", sig := { parameters := [.char], returnType := some (.object "java/lang/String") }, accessFlags := 9, code := some k7c2 }
def k7c3 : Code := { maxStack := 4, maxLocals := 6, code := jdk_42_method_149_code, exceptionTable := #[], attributes := #[] }
def k7m3 : Method := { name := "<init>", desc := "([CIILjava/lang/Void;)V", sig := { parameters := [(.array .char), .int, .int, (.object "java/lang/Void")], returnType := none }, accessFlags := 2, code := some k7c3 }
def k7c4 : Code := { maxStack := 2, maxLocals := 3, code := jdk_42_method_151_code, exceptionTable := #[], attributes := #[] }
def k7m4 : Method := { name := "<init>", desc := "([BB)V", sig := { parameters := [(.array .byte), .byte], returnType := none }, accessFlags := 0, code := some k7c4 }
/-- java/lang/String -/
def k7 : Class := { plain "java/lang/String" (some 0) with
  accessFlags := 49
  interfaces := #[2, 3, 4, 5, 6]
  cf := some (fileOf pool7 10 #[.nestMembers #[1103]] #[{ accessFlags := 1, nameIndex := 5, descriptorIndex := 6, attributes := #[] }, { accessFlags := 1, nameIndex := 5, descriptorIndex := 1010, attributes := #[] }, { accessFlags := 9, nameIndex := 782, descriptorIndex := 783, attributes := #[] }, { accessFlags := 2, nameIndex := 5, descriptorIndex := 29, attributes := #[] }, { accessFlags := 0, nameIndex := 5, descriptorIndex := 211, attributes := #[] }] 49 2 #[1106, 1108, 575, 1110, 1112] #[{ accessFlags := 18, nameIndex := 13, descriptorIndex := 14, attributes := #[] }, { accessFlags := 18, nameIndex := 17, descriptorIndex := 18, attributes := #[] }, { accessFlags := 2, nameIndex := 21, descriptorIndex := 22, attributes := #[] }, { accessFlags := 2, nameIndex := 25, descriptorIndex := 26, attributes := #[] }, { accessFlags := 26, nameIndex := 1116, descriptorIndex := 1117, attributes := #[] }, { accessFlags := 24, nameIndex := 40, descriptorIndex := 26, attributes := #[] }, { accessFlags := 26, nameIndex := 1101, descriptorIndex := 1102, attributes := #[] }, { accessFlags := 26, nameIndex := 1121, descriptorIndex := 1122, attributes := #[] }, { accessFlags := 25, nameIndex := 599, descriptorIndex := 600, attributes := #[] }, { accessFlags := 24, nameIndex := 1125, descriptorIndex := 18, attributes := #[] }, { accessFlags := 24, nameIndex := 1127, descriptorIndex := 18, attributes := #[] }])
  fields := #[{ name := "value", type := (.array .byte), accessFlags := 18, slot := 0, constantValue := 0 }, { name := "coder", type := .byte, accessFlags := 18, slot := 1, constantValue := 0 }, { name := "hash", type := .int, accessFlags := 2, slot := 2, constantValue := 0 }, { name := "hashIsZero", type := .boolean, accessFlags := 2, slot := 3, constantValue := 0 }, { name := "serialVersionUID", type := .long, accessFlags := 26, slot := 0, constantValue := 0 }, { name := "COMPACT_STRINGS", type := .boolean, accessFlags := 24, slot := 1, constantValue := 0 }, { name := "serialPersistentFields", type := (.array (.object "java/io/ObjectStreamField")), accessFlags := 26, slot := 2, constantValue := 0 }, { name := "REPL", type := .char, accessFlags := 26, slot := 3, constantValue := 0 }, { name := "CASE_INSENSITIVE_ORDER", type := (.object "java/util/Comparator"), accessFlags := 25, slot := 4, constantValue := 0 }, { name := "LATIN1", type := .byte, accessFlags := 24, slot := 5, constantValue := 0 }, { name := "UTF16", type := .byte, accessFlags := 24, slot := 6, constantValue := 0 }]
  methods := #[k7m0, k7m1, k7m2, k7m3, k7m4]
  instanceTypes := #[(.array .byte), .byte, .int, .boolean]
  staticTypes := #[.long, .boolean, (.array (.object "java/io/ObjectStreamField")), .char, (.object "java/util/Comparator"), .byte, .byte]
  resolved := Array.replicate 1451 none
  statics := some 0 }

def pool8 : Array CpInfo := pool [(6, .class_ 8), (1, u "java/lang/Object"), (0, u "<init>"), (0, u "()V"), (1, .class_ 14), (1, u "java/lang/StringUTF16"), (31, u "$assertionsDisabled"), (0, u "Z"), (13, u "HI_BYTE_SHIFT"), (0, u "I"), (2, u "LO_BYTE_SHIFT"), (49, .methodref 12 116), (0, .nameAndType 117 118), (0, u "compress"), (0, u "([CI[BII)I"), (3, u "([CII)[B"), (138, u "coderFromArrayLen"), (0, u "([BI)B"), (106, .class_ 371), (1, u "java/lang/StringUTF16$LinesSpliterator"), (58, u "MAX_LENGTH"), (196, .class_ 628), (0, u "java/lang/StringUTF16$CodePointsSpliterator"), (0, .class_ 630), (0, u "java/lang/StringUTF16$CharsSpliterator")] 4

def k8m0 : Method := { name := "<init>", desc := "()V", sig := { parameters := [], returnType := none }, accessFlags := 0, code := none }
def k8c1 : Code := { maxStack := 2, maxLocals := 2, code := jdk_52_method_15_code, exceptionTable := #[], attributes := #[] }
def k8m1 : Method := { name := "coderFromArrayLen", desc := "([BI)B", sig := { parameters := [(.array .byte), .int], returnType := some .byte }, accessFlags := 8, code := some k8c1 }
def k8c2 : Code := { maxStack := 5, maxLocals := 6, code := jdk_52_method_16_code, exceptionTable := #[], attributes := #[] }
def k8m2 : Method := { name := "compress", desc := "([CII)[B", sig := { parameters := [(.array .char), .int, .int], returnType := some (.array .byte) }, accessFlags := 9, code := some k8c2 }
def k8c3 : Code := { maxStack := 3, maxLocals := 7, code := jdk_52_method_21_code, exceptionTable := #[], attributes := #[] }
def k8m3 : Method := { name := "compress", desc := "([CI[BII)I", sig := { parameters := [(.array .char), .int, (.array .byte), .int, .int], returnType := some .int }, accessFlags := 9, code := some k8c3 }
/-- java/lang/StringUTF16 -/
def k8 : Class := { plain "java/lang/StringUTF16" (some 0) with
  accessFlags := 48
  interfaces := #[]
  cf := some (fileOf pool8 12 #[.nestMembers #[627, 629, 369]] #[{ accessFlags := 0, nameIndex := 9, descriptorIndex := 10, attributes := #[] }, { accessFlags := 8, nameIndex := 261, descriptorIndex := 262, attributes := #[] }, { accessFlags := 9, nameIndex := 117, descriptorIndex := 122, attributes := #[] }, { accessFlags := 9, nameIndex := 117, descriptorIndex := 118, attributes := #[] }] 48 6 #[] #[{ accessFlags := 26, nameIndex := 61, descriptorIndex := 62, attributes := #[] }, { accessFlags := 26, nameIndex := 65, descriptorIndex := 62, attributes := #[] }, { accessFlags := 24, nameIndex := 430, descriptorIndex := 62, attributes := #[] }, { accessFlags := 4120, nameIndex := 46, descriptorIndex := 47, attributes := #[] }])
  fields := #[{ name := "HI_BYTE_SHIFT", type := .int, accessFlags := 26, slot := 0, constantValue := 0 }, { name := "LO_BYTE_SHIFT", type := .int, accessFlags := 26, slot := 1, constantValue := 0 }, { name := "MAX_LENGTH", type := .int, accessFlags := 24, slot := 2, constantValue := 0 }, { name := "$assertionsDisabled", type := .boolean, accessFlags := 4120, slot := 3, constantValue := 0 }]
  methods := #[k8m0, k8m1, k8m2, k8m3]
  instanceTypes := #[]
  staticTypes := #[.int, .int, .int, .boolean]
  resolved := Array.replicate 635 none
  statics := none }

def pool9 : Array CpInfo := pool [(4, .class_ 6), (1, u "java/lang/Object"), (0, u "<init>"), (0, u "()V"), (5, .class_ 16), (1, u "java/lang/StringLatin1"), (73, u "canEncode"), (14, u "(C)Z"), (15, u "$assertionsDisabled"), (0, u "Z"), (98, .class_ 223), (1, u "java/lang/StringLatin1$LinesSpliterator"), (156, u "toBytes"), (1, u "(C)[B"), (7, .class_ 391), (0, u "java/lang/StringLatin1$CharsSpliterator")] 3

def k9m0 : Method := { name := "<init>", desc := "()V", sig := { parameters := [], returnType := none }, accessFlags := 0, code := none }
def k9c1 : Code := { maxStack := 2, maxLocals := 1, code := jdk_43_method_3_code, exceptionTable := #[], attributes := #[] }
def k9m1 : Method := { name := "canEncode", desc := "(C)Z", sig := { parameters := [.char], returnType := some .boolean }, accessFlags := 9, code := some k9c1 }
def k9c2 : Code := { maxStack := 4, maxLocals := 1, code := jdk_43_method_46_code, exceptionTable := #[], attributes := #[] }
def k9m2 : Method := { name := "toBytes", desc := "(C)[B", sig := { parameters := [.char], returnType := some (.array .byte) }, accessFlags := 9, code := some k9c2 }
/-- java/lang/StringLatin1 -/
def k9 : Class := { plain "java/lang/StringLatin1" (some 0) with
  accessFlags := 48
  interfaces := #[]
  cf := some (fileOf pool9 14 #[.nestMembers #[390, 221]] #[{ accessFlags := 0, nameIndex := 7, descriptorIndex := 8, attributes := #[] }, { accessFlags := 9, nameIndex := 90, descriptorIndex := 105, attributes := #[] }, { accessFlags := 9, nameIndex := 380, descriptorIndex := 382, attributes := #[] }] 48 4 #[] #[{ accessFlags := 4120, nameIndex := 121, descriptorIndex := 122, attributes := #[] }])
  fields := #[{ name := "$assertionsDisabled", type := .boolean, accessFlags := 4120, slot := 0, constantValue := 0 }]
  methods := #[k9m0, k9m1, k9m2]
  instanceTypes := #[]
  staticTypes := #[.boolean]
  resolved := Array.replicate 395 none
  statics := none }

def pool10 : Array CpInfo := pool [(8, .class_ 10), (1, u "java/lang/Iterable"), (24, .class_ 36), (0, u "java/lang/Object")] 25

/-- java/lang/Iterable -/
def k10 : Class := { plain "java/lang/Iterable" (some 0) with
  accessFlags := 1537
  interfaces := #[]
  cf := some (fileOf pool10 8 #[] #[] 1537 35 #[] #[])
  fields := #[]
  methods := #[]
  instanceTypes := #[]
  staticTypes := #[]
  resolved := Array.replicate 62 none
  statics := none }

def pool11 : Array CpInfo := pool [(10, .class_ 12), (1, u "java/util/Collection"), (47, .class_ 61), (0, u "java/lang/Object"), (0, .class_ 63), (0, u "java/lang/Iterable")] 51

/-- java/util/Collection -/
def k11 : Class := { plain "java/util/Collection" (some 0) with
  accessFlags := 1537
  interfaces := #[10]
  cf := some (fileOf pool11 10 #[] #[] 1537 60 #[62] #[])
  fields := #[]
  methods := #[]
  instanceTypes := #[]
  staticTypes := #[]
  resolved := Array.replicate 115 none
  statics := none }

def pool12 : Array CpInfo := pool [(1, .methodref 2 3), (0, .class_ 4), (0, .nameAndType 5 6), (0, u "java/lang/Object"), (0, u "<init>"), (0, u "()V"), (1, .class_ 10), (1, u "java/util/AbstractCollection"), (66, .class_ 78), (0, u "java/util/Collection")] 81

def k12c0 : Code := { maxStack := 1, maxLocals := 1, code := jdk_22_method_1_code, exceptionTable := #[], attributes := #[] }
def k12m0 : Method := { name := "<init>", desc := "()V", sig := { parameters := [], returnType := none }, accessFlags := 4, code := some k12c0 }
/-- java/util/AbstractCollection -/
def k12 : Class := { plain "java/util/AbstractCollection" (some 0) with
  accessFlags := 1057
  interfaces := #[11]
  cf := some (fileOf pool12 8 #[] #[{ accessFlags := 4, nameIndex := 5, descriptorIndex := 6, attributes := #[] }] 1057 2 #[77] #[])
  fields := #[]
  methods := #[k12m0]
  instanceTypes := #[]
  staticTypes := #[]
  resolved := Array.replicate 160 none
  statics := none }

def pool13 : Array CpInfo := pool [(8, .class_ 10), (1, u "java/util/SequencedCollection"), (15, .class_ 27), (0, u "java/lang/Object"), (0, .class_ 29), (0, u "java/util/Collection")] 27

/-- java/util/SequencedCollection -/
def k13 : Class := { plain "java/util/SequencedCollection" (some 0) with
  accessFlags := 1537
  interfaces := #[11]
  cf := some (fileOf pool13 8 #[] #[] 1537 26 #[28] #[])
  fields := #[]
  methods := #[]
  instanceTypes := #[]
  staticTypes := #[]
  resolved := Array.replicate 57 none
  statics := none }

def pool14 : Array CpInfo := pool [(8, .class_ 10), (1, u "java/util/List"), (92, .class_ 104), (0, u "java/lang/Object"), (15, .class_ 121), (0, u "java/util/SequencedCollection")] 129

/-- java/util/List -/
def k14 : Class := { plain "java/util/List" (some 0) with
  accessFlags := 1537
  interfaces := #[13]
  cf := some (fileOf pool14 8 #[] #[] 1537 103 #[120] #[])
  fields := #[]
  methods := #[]
  instanceTypes := #[]
  staticTypes := #[]
  resolved := Array.replicate 251 none
  statics := none }

def pool15 : Array CpInfo := pool [(1, .methodref 2 3), (0, .class_ 4), (0, .nameAndType 5 6), (0, u "java/util/AbstractCollection"), (0, u "<init>"), (0, u "()V"), (0, .fieldref 8 9), (0, .class_ 10), (0, .nameAndType 11 12), (0, u "java/util/AbstractList"), (0, u "modCount"), (0, u "I"), (64, .class_ 78), (0, u "java/util/AbstractList$Itr"), (3, .class_ 83), (0, u "java/util/AbstractList$ListItr"), (9, .class_ 94), (0, u "java/util/AbstractList$RandomAccessSubList"), (3, .class_ 99), (0, u "java/util/AbstractList$SubList"), (33, .class_ 134), (0, u "java/util/List"), (73, .class_ 209), (0, u "java/util/AbstractList$SubList$1"), (0, .class_ 211), (0, u "java/util/AbstractList$RandomAccessSpliterator")] 6

def k15c0 : Code := { maxStack := 2, maxLocals := 1, code := jdk_39_method_1_code, exceptionTable := #[], attributes := #[] }
def k15m0 : Method := { name := "<init>", desc := "()V", sig := { parameters := [], returnType := none }, accessFlags := 4, code := some k15c0 }
/-- java/util/AbstractList -/
def k15 : Class := { plain "java/util/AbstractList" (some 12) with
  accessFlags := 1057
  interfaces := #[14]
  cf := some (fileOf pool15 8 #[.nestMembers #[93, 98, 208, 210, 82, 77]] #[{ accessFlags := 4, nameIndex := 5, descriptorIndex := 6, attributes := #[] }] 1057 2 #[133] #[{ accessFlags := 132, nameIndex := 11, descriptorIndex := 12, attributes := #[] }])
  fields := #[{ name := "modCount", type := .int, accessFlags := 132, slot := 0, constantValue := 0 }]
  methods := #[k15m0]
  instanceTypes := #[.int]
  staticTypes := #[]
  resolved := Array.replicate 218 none
  statics := none }

def pool16 : Array CpInfo := pool [(1, .class_ 2), (0, u "java/util/RandomAccess"), (0, .class_ 4), (0, u "java/lang/Object")] 2

/-- java/util/RandomAccess -/
def k16 : Class := { plain "java/util/RandomAccess" (some 0) with
  accessFlags := 1537
  interfaces := #[]
  cf := some (fileOf pool16 1 #[] #[] 1537 3 #[] #[])
  fields := #[]
  methods := #[]
  instanceTypes := #[]
  staticTypes := #[]
  resolved := Array.replicate 7 none
  statics := none }

def pool17 : Array CpInfo := pool [(1, .class_ 2), (0, u "java/lang/Cloneable"), (0, .class_ 4), (0, u "java/lang/Object")] 2

/-- java/lang/Cloneable -/
def k17 : Class := { plain "java/lang/Cloneable" (some 0) with
  accessFlags := 1537
  interfaces := #[]
  cf := some (fileOf pool17 1 #[] #[] 1537 3 #[] #[])
  fields := #[]
  methods := #[]
  instanceTypes := #[]
  staticTypes := #[]
  resolved := Array.replicate 7 none
  statics := none }

def pool18 : Array CpInfo := pool [(1, .methodref 2 3), (0, .class_ 4), (0, .nameAndType 5 6), (0, u "java/util/AbstractList"), (0, u "<init>"), (0, u "()V"), (0, .class_ 8), (0, u "java/lang/Object"), (0, .fieldref 10 11), (0, .class_ 12), (0, .nameAndType 13 14), (0, u "java/util/ArrayList"), (0, u "elementData"), (0, u "[Ljava/lang/Object;"), (2, u "EMPTY_ELEMENTDATA"), (21, .fieldref 10 40), (0, .nameAndType 41 14), (0, u "DEFAULTCAPACITY_EMPTY_ELEMENTDATA"), (5, u "()[Ljava/lang/Object;"), (0, .fieldref 10 49), (0, .nameAndType 50 51), (0, u "size"), (0, u "I"), (11, .fieldref 10 64), (0, .nameAndType 65 51), (0, u "modCount"), (3, .methodref 10 70), (0, .nameAndType 71 72), (0, u "grow"), (0, u "(I)[Ljava/lang/Object;"), (6, .methodref 80 81), (0, .class_ 82), (0, .nameAndType 83 84), (0, u "java/lang/Math"), (0, u "max"), (0, u "(II)I"), (11, u "(Ljava/lang/Object;)Z"), (32, .methodref 10 130), (0, .nameAndType 71 47), (0, .methodref 10 132), (0, .nameAndType 133 134), (0, u "add"), (0, u "(Ljava/lang/Object;[Ljava/lang/Object;I)V"), (13, .class_ 149), (0, u "java/util/List"), (112, .class_ 263), (0, u "java/util/ArrayList$ListItr"), (3, .class_ 268), (0, u "java/util/ArrayList$Itr"), (7, .class_ 277), (0, u "java/util/ArrayList$SubList"), (12, .class_ 291), (0, u "java/util/ArrayList$ArrayListSpliterator"), (37, .class_ 330), (0, u "java/util/RandomAccess"), (0, .class_ 332), (0, u "java/lang/Cloneable"), (0, .class_ 334), (0, u "java/io/Serializable"), (0, u "serialVersionUID"), (0, u "J"), (3, u "DEFAULT_CAPACITY"), (159, .class_ 501), (0, u "java/util/ArrayList$SubList$2"), (0, .class_ 503), (0, u "java/util/ArrayList$SubList$1")] 5

def k18c0 : Code := { maxStack := 2, maxLocals := 1, code := jdk_38_method_2_code, exceptionTable := #[], attributes := #[] }
def k18m0 : Method := { name := "<init>", desc := "()V", sig := { parameters := [], returnType := none }, accessFlags := 1, code := some k18c0 }
def k18c1 : Code := { maxStack := 4, maxLocals := 4, code := jdk_38_method_6_code, exceptionTable := #[], attributes := #[] }
def k18m1 : Method := { name := "grow", desc := "(I)[Ljava/lang/Object;", sig := { parameters := [.int], returnType := some (.array (.object "java/lang/Object")) }, accessFlags := 2, code := some k18c1 }
def k18c2 : Code := { maxStack := 3, maxLocals := 1, code := jdk_38_method_7_code, exceptionTable := #[], attributes := #[] }
def k18m2 : Method := { name := "grow", desc := "()[Ljava/lang/Object;", sig := { parameters := [], returnType := some (.array (.object "java/lang/Object")) }, accessFlags := 2, code := some k18c2 }
def k18c3 : Code := { maxStack := 3, maxLocals := 4, code := jdk_38_method_24_code, exceptionTable := #[], attributes := #[] }
def k18m3 : Method := { name := "add", desc := "(Ljava/lang/Object;[Ljava/lang/Object;I)V", sig := { parameters := [(.object "java/lang/Object"), (.array (.object "java/lang/Object")), .int], returnType := none }, accessFlags := 2, code := some k18c3 }
def k18c4 : Code := { maxStack := 4, maxLocals := 2, code := jdk_38_method_25_code, exceptionTable := #[], attributes := #[] }
def k18m4 : Method := { name := "add", desc := "(Ljava/lang/Object;)Z", sig := { parameters := [(.object "java/lang/Object")], returnType := some .boolean }, accessFlags := 1, code := some k18c4 }
/-- java/util/ArrayList -/
def k18 : Class := { plain "java/util/ArrayList" (some 15) with
  accessFlags := 33
  interfaces := #[14, 16, 17, 2]
  cf := some (fileOf pool18 10 #[.nestMembers #[290, 276, 500, 502, 262, 267]] #[{ accessFlags := 1, nameIndex := 5, descriptorIndex := 6, attributes := #[] }, { accessFlags := 2, nameIndex := 71, descriptorIndex := 72, attributes := #[] }, { accessFlags := 2, nameIndex := 71, descriptorIndex := 47, attributes := #[] }, { accessFlags := 2, nameIndex := 133, descriptorIndex := 134, attributes := #[] }, { accessFlags := 1, nameIndex := 133, descriptorIndex := 96, attributes := #[] }] 33 2 #[148, 329, 331, 333] #[{ accessFlags := 26, nameIndex := 335, descriptorIndex := 336, attributes := #[] }, { accessFlags := 26, nameIndex := 340, descriptorIndex := 51, attributes := #[] }, { accessFlags := 26, nameIndex := 17, descriptorIndex := 14, attributes := #[] }, { accessFlags := 26, nameIndex := 41, descriptorIndex := 14, attributes := #[] }, { accessFlags := 128, nameIndex := 13, descriptorIndex := 14, attributes := #[] }, { accessFlags := 2, nameIndex := 50, descriptorIndex := 51, attributes := #[] }])
  fields := #[{ name := "serialVersionUID", type := .long, accessFlags := 26, slot := 0, constantValue := 0 }, { name := "DEFAULT_CAPACITY", type := .int, accessFlags := 26, slot := 1, constantValue := 0 }, { name := "EMPTY_ELEMENTDATA", type := (.array (.object "java/lang/Object")), accessFlags := 26, slot := 2, constantValue := 0 }, { name := "DEFAULTCAPACITY_EMPTY_ELEMENTDATA", type := (.array (.object "java/lang/Object")), accessFlags := 26, slot := 3, constantValue := 0 }, { name := "elementData", type := (.array (.object "java/lang/Object")), accessFlags := 128, slot := 1, constantValue := 0 }, { name := "size", type := .int, accessFlags := 2, slot := 2, constantValue := 0 }]
  methods := #[k18m0, k18m1, k18m2, k18m3, k18m4]
  instanceTypes := #[.int, (.array (.object "java/lang/Object")), .int]
  staticTypes := #[.long, .int, (.array (.object "java/lang/Object")), (.array (.object "java/lang/Object"))]
  resolved := Array.replicate 509 none
  statics := some 1 }

def pool19 : Array CpInfo := pool [(1, .methodref 2 3), (0, .class_ 4), (0, .nameAndType 5 6), (0, u "java/lang/Object"), (0, u "<init>"), (0, u "()V"), (0, .class_ 8), (0, u "java/lang/Record")] 13

def k19c0 : Code := { maxStack := 1, maxLocals := 1, code := jdk_30_method_1_code, exceptionTable := #[], attributes := #[] }
def k19m0 : Method := { name := "<init>", desc := "()V", sig := { parameters := [], returnType := none }, accessFlags := 4, code := some k19c0 }
/-- java/lang/Record -/
def k19 : Class := { plain "java/lang/Record" (some 0) with
  accessFlags := 1057
  interfaces := #[]
  cf := some (fileOf pool19 7 #[] #[{ accessFlags := 4, nameIndex := 5, descriptorIndex := 6, attributes := #[] }] 1057 2 #[] #[])
  fields := #[]
  methods := #[k19m0]
  instanceTypes := #[]
  staticTypes := #[]
  resolved := Array.replicate 22 none
  statics := none }

def pool20 : Array CpInfo := pool [(1, .methodref 2 3), (0, .class_ 4), (0, .nameAndType 5 6), (0, u "java/lang/Record"), (0, u "<init>"), (0, u "()V"), (0, .fieldref 8 9), (0, .class_ 10), (0, .nameAndType 11 12), (0, u "com/example/ledgerleaf/ledgerleaf/Element"), (0, u "name"), (0, u "Ljava/lang/String;"), (0, .fieldref 8 14), (0, .nameAndType 15 12), (0, u "text"), (0, .fieldref 8 17), (0, .nameAndType 18 19), (0, u "children"), (0, u "Ljava/util/List;"), (8, u "(Ljava/lang/String;Ljava/lang/String;Ljava/util/List;)V"), (16, u "()Z"), (22, u "holdsText")] 65

def k20c0 : Code := { maxStack := 2, maxLocals := 4, code := prog_31_method_1_code, exceptionTable := #[], attributes := #[] }
def k20m0 : Method := { name := "<init>", desc := "(Ljava/lang/String;Ljava/lang/String;Ljava/util/List;)V", sig := { parameters := [(.object "java/lang/String"), (.object "java/lang/String"), (.object "java/util/List")], returnType := none }, accessFlags := 0, code := some k20c0 }
def k20c1 : Code := { maxStack := 1, maxLocals := 1, code := prog_31_method_5_code, exceptionTable := #[], attributes := #[] }
def k20m1 : Method := { name := "holdsText", desc := "()Z", sig := { parameters := [], returnType := some .boolean }, accessFlags := 0, code := some k20c1 }
/-- com/example/ledgerleaf/ledgerleaf/Element -/
def k20 : Class := { plain "com/example/ledgerleaf/ledgerleaf/Element" (some 19) with
  accessFlags := 48
  interfaces := #[]
  cf := some (fileOf pool20 8 #[] #[{ accessFlags := 0, nameIndex := 5, descriptorIndex := 28, attributes := #[] }, { accessFlags := 0, nameIndex := 68, descriptorIndex := 45, attributes := #[] }] 48 2 #[] #[{ accessFlags := 18, nameIndex := 11, descriptorIndex := 12, attributes := #[] }, { accessFlags := 18, nameIndex := 15, descriptorIndex := 12, attributes := #[] }, { accessFlags := 18, nameIndex := 18, descriptorIndex := 19, attributes := #[] }])
  fields := #[{ name := "name", type := (.object "java/lang/String"), accessFlags := 18, slot := 0, constantValue := 0 }, { name := "text", type := (.object "java/lang/String"), accessFlags := 18, slot := 1, constantValue := 0 }, { name := "children", type := (.object "java/util/List"), accessFlags := 18, slot := 2, constantValue := 0 }]
  methods := #[k20m0, k20m1]
  instanceTypes := #[(.object "java/lang/String"), (.object "java/lang/String"), (.object "java/util/List")]
  staticTypes := #[]
  resolved := Array.replicate 134 none
  statics := none }

def pool21 : Array CpInfo := pool [(1, .class_ 2), (0, u "java/lang/Math"), (1, .class_ 6), (1, u "java/lang/Object"), (0, u "<init>"), (0, u "()V"), (89, .class_ 100), (1, u "java/lang/Math$RandomNumberGeneratorHolder"), (71, u "negativeZeroFloatBits"), (0, u "J"), (2, u "negativeZeroDoubleBits"), (21, u "max"), (46, u "$assertionsDisabled"), (0, u "Z"), (88, u "(II)I"), (2, u "twoToTheDoubleScaleDown"), (0, u "D"), (4, u "twoToTheDoubleScaleUp"), (9, u "E"), (3, u "PI"), (2, u "TAU"), (2, u "DEGREES_TO_RADIANS"), (0, u "RADIANS_TO_DEGREES")] 94

def k21m0 : Method := { name := "<init>", desc := "()V", sig := { parameters := [], returnType := none }, accessFlags := 2, code := none }
def k21c1 : Code := { maxStack := 2, maxLocals := 2, code := jdk_29_method_65_code, exceptionTable := #[], attributes := #[] }
def k21m1 : Method := { name := "max", desc := "(II)I", sig := { parameters := [.int, .int], returnType := some .int }, accessFlags := 9, code := some k21c1 }
/-- java/lang/Math -/
def k21 : Class := { plain "java/lang/Math" (some 0) with
  accessFlags := 49
  interfaces := #[]
  cf := some (fileOf pool21 1 #[.nestMembers #[98]] #[{ accessFlags := 2, nameIndex := 7, descriptorIndex := 8, attributes := #[] }, { accessFlags := 9, nameIndex := 198, descriptorIndex := 335, attributes := #[] }] 49 4 #[] #[{ accessFlags := 25, nameIndex := 354, descriptorIndex := 339, attributes := #[] }, { accessFlags := 25, nameIndex := 358, descriptorIndex := 339, attributes := #[] }, { accessFlags := 25, nameIndex := 361, descriptorIndex := 339, attributes := #[] }, { accessFlags := 26, nameIndex := 364, descriptorIndex := 339, attributes := #[] }, { accessFlags := 26, nameIndex := 365, descriptorIndex := 339, attributes := #[] }, { accessFlags := 26, nameIndex := 172, descriptorIndex := 173, attributes := #[] }, { accessFlags := 26, nameIndex := 176, descriptorIndex := 173, attributes := #[] }, { accessFlags := 8, nameIndex := 344, descriptorIndex := 339, attributes := #[] }, { accessFlags := 8, nameIndex := 338, descriptorIndex := 339, attributes := #[] }, { accessFlags := 4120, nameIndex := 245, descriptorIndex := 246, attributes := #[] }])
  fields := #[{ name := "E", type := .double, accessFlags := 25, slot := 0, constantValue := 0 }, { name := "PI", type := .double, accessFlags := 25, slot := 1, constantValue := 0 }, { name := "TAU", type := .double, accessFlags := 25, slot := 2, constantValue := 0 }, { name := "DEGREES_TO_RADIANS", type := .double, accessFlags := 26, slot := 3, constantValue := 0 }, { name := "RADIANS_TO_DEGREES", type := .double, accessFlags := 26, slot := 4, constantValue := 0 }, { name := "negativeZeroFloatBits", type := .long, accessFlags := 26, slot := 5, constantValue := 0 }, { name := "negativeZeroDoubleBits", type := .long, accessFlags := 26, slot := 6, constantValue := 0 }, { name := "twoToTheDoubleScaleUp", type := .double, accessFlags := 8, slot := 7, constantValue := 0 }, { name := "twoToTheDoubleScaleDown", type := .double, accessFlags := 8, slot := 8, constantValue := 0 }, { name := "$assertionsDisabled", type := .boolean, accessFlags := 4120, slot := 9, constantValue := 0 }]
  methods := #[k21m0, k21m1]
  instanceTypes := #[]
  staticTypes := #[.double, .double, .double, .double, .double, .long, .long, .double, .double, .boolean]
  resolved := Array.replicate 460 none
  statics := none }

def pool22 : Array CpInfo := pool [(2, .class_ 4), (1, u "java/lang/Object"), (0, u "<init>"), (0, u "()V"), (17, .class_ 26), (1, u "jdk/internal/util/Preconditions"), (28, .class_ 56), (0, u "jdk/internal/util/Preconditions$4"), (57, .class_ 115), (0, u "jdk/internal/util/Preconditions$1"), (7, u "SIOOBE_FORMATTER"), (0, u "Ljava/util/function/BiFunction;"), (0, .class_ 126), (0, u "jdk/internal/util/Preconditions$2"), (3, u "AIOOBE_FORMATTER"), (0, .class_ 132), (0, u "jdk/internal/util/Preconditions$3"), (3, u "IOOBE_FORMATTER")] 57

def k22m0 : Method := { name := "<init>", desc := "()V", sig := { parameters := [], returnType := none }, accessFlags := 1, code := none }
/-- jdk/internal/util/Preconditions -/
def k22 : Class := { plain "jdk/internal/util/Preconditions" (some 0) with
  accessFlags := 33
  interfaces := #[]
  cf := some (fileOf pool22 24 #[.nestMembers #[55, 131, 125, 114]] #[{ accessFlags := 1, nameIndex := 5, descriptorIndex := 6, attributes := #[] }] 33 2 #[] #[{ accessFlags := 25, nameIndex := 123, descriptorIndex := 124, attributes := #[] }, { accessFlags := 25, nameIndex := 130, descriptorIndex := 124, attributes := #[] }, { accessFlags := 25, nameIndex := 136, descriptorIndex := 124, attributes := #[] }])
  fields := #[{ name := "SIOOBE_FORMATTER", type := (.object "java/util/function/BiFunction"), accessFlags := 25, slot := 0, constantValue := 0 }, { name := "AIOOBE_FORMATTER", type := (.object "java/util/function/BiFunction"), accessFlags := 25, slot := 1, constantValue := 0 }, { name := "IOOBE_FORMATTER", type := (.object "java/util/function/BiFunction"), accessFlags := 25, slot := 2, constantValue := 0 }]
  methods := #[k22m0]
  instanceTypes := #[]
  staticTypes := #[(.object "java/util/function/BiFunction"), (.object "java/util/function/BiFunction"), (.object "java/util/function/BiFunction")]
  resolved := Array.replicate 194 none
  statics := some 2 }

def pool23 : Array CpInfo := pool [(9, u "<init>"), (6, .class_ 18), (1, u "java/lang/Object"), (0, u "()V"), (1, .class_ 23), (1, u "jdk/internal/util/ArraysSupport"), (0, u "LOG2_ARRAY_LONG_INDEX_SCALE"), (0, u "I"), (2, u "U"), (0, u "Ljdk/internal/misc/Unsafe;"), (8, u "BIG_ENDIAN"), (0, u "Z"), (8, u "LOG2_BYTE_BIT_SIZE"), (4, u "LOG2_ARRAY_INT_INDEX_SCALE"), (54, u "JLA"), (0, u "Ljdk/internal/access/JavaLangAccess;"), (11, u "LOG2_ARRAY_BOOLEAN_INDEX_SCALE"), (9, u "LOG2_ARRAY_BYTE_INDEX_SCALE"), (5, u "LOG2_ARRAY_CHAR_INDEX_SCALE"), (5, u "LOG2_ARRAY_SHORT_INDEX_SCALE"), (18, u "LOG2_ARRAY_FLOAT_INDEX_SCALE"), (24, u "LOG2_ARRAY_DOUBLE_INDEX_SCALE"), (89, u "T_BOOLEAN"), (2, u "T_CHAR"), (1, u "T_FLOAT"), (1, u "T_DOUBLE"), (1, u "T_BYTE"), (1, u "T_SHORT"), (1, u "T_INT"), (1, u "T_LONG"), (1, u "SOFT_MAX_ARRAY_LENGTH")] 83

def k23m0 : Method := { name := "<init>", desc := "()V", sig := { parameters := [], returnType := none }, accessFlags := 2, code := none }
/-- jdk/internal/util/ArraysSupport -/
def k23 : Class := { plain "jdk/internal/util/ArraysSupport" (some 0) with
  accessFlags := 33
  interfaces := #[]
  cf := some (fileOf pool23 21 #[] #[{ accessFlags := 2, nameIndex := 9, descriptorIndex := 19, attributes := #[] }] 33 16 #[] #[{ accessFlags := 24, nameIndex := 28, descriptorIndex := 29, attributes := #[] }, { accessFlags := 26, nameIndex := 38, descriptorIndex := 39, attributes := #[] }, { accessFlags := 25, nameIndex := 121, descriptorIndex := 25, attributes := #[] }, { accessFlags := 25, nameIndex := 131, descriptorIndex := 25, attributes := #[] }, { accessFlags := 25, nameIndex := 137, descriptorIndex := 25, attributes := #[] }, { accessFlags := 25, nameIndex := 143, descriptorIndex := 25, attributes := #[] }, { accessFlags := 25, nameIndex := 53, descriptorIndex := 25, attributes := #[] }, { accessFlags := 25, nameIndex := 24, descriptorIndex := 25, attributes := #[] }, { accessFlags := 25, nameIndex := 162, descriptorIndex := 25, attributes := #[] }, { accessFlags := 25, nameIndex := 187, descriptorIndex := 25, attributes := #[] }, { accessFlags := 26, nameIndex := 48, descriptorIndex := 25, attributes := #[] }, { accessFlags := 25, nameIndex := 277, descriptorIndex := 25, attributes := #[] }, { accessFlags := 25, nameIndex := 280, descriptorIndex := 25, attributes := #[] }, { accessFlags := 25, nameIndex := 282, descriptorIndex := 25, attributes := #[] }, { accessFlags := 25, nameIndex := 284, descriptorIndex := 25, attributes := #[] }, { accessFlags := 25, nameIndex := 286, descriptorIndex := 25, attributes := #[] }, { accessFlags := 25, nameIndex := 288, descriptorIndex := 25, attributes := #[] }, { accessFlags := 25, nameIndex := 290, descriptorIndex := 25, attributes := #[] }, { accessFlags := 25, nameIndex := 292, descriptorIndex := 25, attributes := #[] }, { accessFlags := 26, nameIndex := 108, descriptorIndex := 109, attributes := #[] }, { accessFlags := 25, nameIndex := 294, descriptorIndex := 25, attributes := #[] }])
  fields := #[{ name := "U", type := (.object "jdk/internal/misc/Unsafe"), accessFlags := 24, slot := 0, constantValue := 0 }, { name := "BIG_ENDIAN", type := .boolean, accessFlags := 26, slot := 1, constantValue := 0 }, { name := "LOG2_ARRAY_BOOLEAN_INDEX_SCALE", type := .int, accessFlags := 25, slot := 2, constantValue := 0 }, { name := "LOG2_ARRAY_BYTE_INDEX_SCALE", type := .int, accessFlags := 25, slot := 3, constantValue := 0 }, { name := "LOG2_ARRAY_CHAR_INDEX_SCALE", type := .int, accessFlags := 25, slot := 4, constantValue := 0 }, { name := "LOG2_ARRAY_SHORT_INDEX_SCALE", type := .int, accessFlags := 25, slot := 5, constantValue := 0 }, { name := "LOG2_ARRAY_INT_INDEX_SCALE", type := .int, accessFlags := 25, slot := 6, constantValue := 0 }, { name := "LOG2_ARRAY_LONG_INDEX_SCALE", type := .int, accessFlags := 25, slot := 7, constantValue := 0 }, { name := "LOG2_ARRAY_FLOAT_INDEX_SCALE", type := .int, accessFlags := 25, slot := 8, constantValue := 0 }, { name := "LOG2_ARRAY_DOUBLE_INDEX_SCALE", type := .int, accessFlags := 25, slot := 9, constantValue := 0 }, { name := "LOG2_BYTE_BIT_SIZE", type := .int, accessFlags := 26, slot := 10, constantValue := 0 }, { name := "T_BOOLEAN", type := .int, accessFlags := 25, slot := 11, constantValue := 0 }, { name := "T_CHAR", type := .int, accessFlags := 25, slot := 12, constantValue := 0 }, { name := "T_FLOAT", type := .int, accessFlags := 25, slot := 13, constantValue := 0 }, { name := "T_DOUBLE", type := .int, accessFlags := 25, slot := 14, constantValue := 0 }, { name := "T_BYTE", type := .int, accessFlags := 25, slot := 15, constantValue := 0 }, { name := "T_SHORT", type := .int, accessFlags := 25, slot := 16, constantValue := 0 }, { name := "T_INT", type := .int, accessFlags := 25, slot := 17, constantValue := 0 }, { name := "T_LONG", type := .int, accessFlags := 25, slot := 18, constantValue := 0 }, { name := "JLA", type := (.object "jdk/internal/access/JavaLangAccess"), accessFlags := 26, slot := 19, constantValue := 0 }, { name := "SOFT_MAX_ARRAY_LENGTH", type := .int, accessFlags := 25, slot := 20, constantValue := 0 }]
  methods := #[k23m0]
  instanceTypes := #[]
  staticTypes := #[(.object "jdk/internal/misc/Unsafe"), .boolean, .int, .int, .int, .int, .int, .int, .int, .int, .int, .int, .int, .int, .int, .int, .int, .int, .int, (.object "jdk/internal/access/JavaLangAccess"), .int]
  resolved := Array.replicate 378 none
  statics := none }

/-- the primitive byte -/
def k24 : Class := { plain "byte" none with kind := .primitive 'B', accessFlags := 0x411 }
/-- [B -/
def k25 : Class := { plain "[B" (some 0) with kind := .array 24 .byte, interfaces := #[17, 2], accessFlags := 1041 }

/-- the primitive char -/
def k26 : Class := { plain "char" none with kind := .primitive 'C', accessFlags := 0x411 }
/-- [C -/
def k27 : Class := { plain "[C" (some 0) with kind := .array 26 .char, interfaces := #[17, 2], accessFlags := 1041 }

/-- the primitive int -/
def k28 : Class := { plain "int" none with kind := .primitive 'I', accessFlags := 0x411 }
/-- [I -/
def k29 : Class := { plain "[I" (some 0) with kind := .array 28 .int, interfaces := #[17, 2], accessFlags := 1041 }

/-- [Ljava/lang/Object; -/
def k30 : Class := { plain "[Ljava/lang/Object;" (some 0) with kind := .array 0 (.object "java/lang/Object"), interfaces := #[17, 2], accessFlags := 1041 }

def heap : Heap := #[{ cls := 7, slots := #[.long 0, .int 1, .null, .int 0, .null, .int 0, .int 0], vm := .statics 7 },
  { cls := 18, slots := #[.long 0, .int 0, .ref 3, .ref 4], vm := .statics 18 },
  { cls := 22, slots := #[.null, .null, .null], vm := .statics 22 },
  { cls := 30, slots := #[], vm := .none },
  { cls := 30, slots := #[], vm := .none }]
def classes : Array Class := #[k0, k1, k2, k3, k4, k5, k6, k7, k8, k9, k10, k11, k12, k13, k14, k15, k16, k17, k18, k19, k20, k21, k22, k23, k24, k25, k26, k27, k28, k29, k30]
def interned : List (Array UInt16 × Addr) := []
def slotsUsed : Nat := 14
def theMethod : MethodId := ⟨1, 1⟩
def args0 : Array Value := #[.int 5, .int 6, .int 7, .int 8, .int 1]
def aboutOver (below : List Frame) : State where
  vm := { classes := classes, interned := interned.toArray }
  heap := heap
  slotsUsed := slotsUsed
  threads := #[{ frames := .invoking theMethod args0 :: below }]
def below0 : List Frame := [.native { method := ⟨0, 0⟩, args := #[] }]
def about1 : State := aboutOver below0
def p0 : Program := .bare "" "" ""
def e0 : Env := launch0.env 0 0 0
theorem w_frames : about1.frames = Frame.invoking theMethod args0 :: below0 := rfl
set_option maxRecDepth 65536 in
theorem w_args : argsFit about1.vm theMethod args0 = true := by decide +kernel
set_option maxRecDepth 65536 in
theorem w_heap : heapFits about1 = true := by decide +kernel
set_option maxRecDepth 65536 in
theorem w_runnable : about1.curStatus? = some .runnable := by decide +kernel
set_option maxRecDepth 65536 in
theorem w_alone : about1.alone = true := by decide +kernel
set_option maxRecDepth 65536 in
theorem w_named : about1.methodNamed? x = some theMethod := by decide +kernel
set_option maxRecDepth 65536 in
theorem w_hears : about1.hears theMethod below0 = true := by decide +kernel
set_option maxRecDepth 65536 in
theorem w_ripe : about1.ripe theMethod args0 below0 = true := by decide +kernel
theorem w_running : about1.status = .running := rfl
set_option maxRecDepth 65536 in
theorem w_room : about1.hasRoom e0.platform room_1 = true :=
  launch0.hasRoom_least _ room_1 (by decide +kernel) (by decide +kernel) (by decide +kernel) (by decide +kernel) (by decide +kernel) (by decide +kernel)
theorem allAtoms_all (ts : List Jvm.Cond) (a : Array Jvm.Value) (st : Jvm.State) : (allAtoms ts).before a st = ts.all (fun c => c.before a st) := by
  induction ts with
  | nil => rfl
  | cons c t ih =>
    show (Jvm.Cond.and c (allAtoms t)).before a st = _
    rw [Jvm.Cond.before_and, ih, List.all_cons]
def words1 : List Jvm.Cond := Jvm.Cond.code x code maxLocals ret :: tables_1
/-- a 'code' word, met by the world's own term for the bytes: nothing is compared byte by byte -/
theorem code_word {y : MethodName} {bytes : ByteArray} {mx : Nat} {rt : Option FieldType} {a : Array Value} {s : State} {m : MethodId} {meth : Method} {c : Code} (h1 : s.methodNamed? y = some m) (h2 : s.vm.method? m = some meth) (h3 : meth.code = some c) (h4 : c.code = bytes)
    (h5 : (c.maxLocals == mx && c.exceptionTable.isEmpty && decide (c.maxStack ≤ mostOperands) && decide (meth.sig.returnType = rt) && !meth.locks && decide (parseMethodDescriptor y.desc = some meth.sig)) = true) : (Jvm.Cond.code y bytes mx rt).before a s = true := by
  simp only [Bool.and_eq_true, beq_iff_eq, Bool.not_eq_true', decide_eq_true_eq] at h5
  obtain ⟨⟨⟨⟨⟨g1, g2⟩, g3⟩, g4⟩, g5⟩, g6⟩ := h5
  simp [Cond.before, Cond.holds, Cond.value, h1, h2, h3, h4, g1, g2, g3, g4, g5, g6]
def isCode : Jvm.Cond → Bool
  | .code _ _ _ _ => true
  | _ => false
theorem all_split {L : List Jvm.Cond} {P : Jvm.Cond → Bool} (h1 : L.all (fun c => isCode c || P c) = true) (h2 : ∀ c ∈ L.filter isCode, P c = true) : L.all P = true := by
  refine List.all_eq_true.mpr fun c hc => ?_
  have h := List.all_eq_true.mp h1 c hc
  rcases Bool.eq_false_or_eq_true (isCode c) with hi | hi
  · exact h2 c (List.mem_filter.mpr ⟨hc, hi⟩)
  · simpa [hi] using h
set_option maxRecDepth 65536 in
theorem w_c0 : (Jvm.Cond.code x code maxLocals ret).before args0 about1 = true := code_word (m := ⟨1, 1⟩) (meth := k1m1) (c := k1c1) (by decide +kernel) rfl rfl rfl (by decide +kernel)
set_option maxRecDepth 65536 in
theorem w_c1 : (Jvm.Cond.code ({ cls := "java/lang/String", name := "<init>", desc := "([C)V" } : Jvm.MethodName) jdk_42_method_3_code (2 : Nat) (Option.none : Option Jvm.ClassFile.FieldType)).before args0 about1 = true := code_word (m := ⟨7, 1⟩) (meth := k7m1) (c := k7c1) (by decide +kernel) rfl rfl rfl (by decide +kernel)
set_option maxRecDepth 65536 in
theorem w_c2 : (Jvm.Cond.code ({ cls := "java/lang/String", name := "<init>", desc := "([CIILjava/lang/Void;)V" } : Jvm.MethodName) jdk_42_method_149_code (6 : Nat) (Option.none : Option Jvm.ClassFile.FieldType)).before args0 about1 = true := code_word (m := ⟨7, 3⟩) (meth := k7m3) (c := k7c3) (by decide +kernel) rfl rfl rfl (by decide +kernel)
set_option maxRecDepth 65536 in
theorem w_c3 : (Jvm.Cond.code ({ cls := "java/lang/Object", name := "<init>", desc := "()V" } : Jvm.MethodName) object_method_1_code (1 : Nat) (Option.none : Option Jvm.ClassFile.FieldType)).before args0 about1 = true := code_word (m := ⟨0, 0⟩) (meth := k0m0) (c := k0c0) (by decide +kernel) rfl rfl rfl (by decide +kernel)
set_option maxRecDepth 65536 in
theorem w_c4 : (Jvm.Cond.code ({ cls := "java/lang/StringUTF16", name := "compress", desc := "([CII)[B" } : Jvm.MethodName) jdk_52_method_16_code (6 : Nat) (Option.some (Jvm.ClassFile.FieldType.array Jvm.ClassFile.FieldType.byte))).before args0 about1 = true := code_word (m := ⟨8, 2⟩) (meth := k8m2) (c := k8c2) (by decide +kernel) rfl rfl rfl (by decide +kernel)
set_option maxRecDepth 65536 in
theorem w_c5 : (Jvm.Cond.code ({ cls := "java/lang/StringUTF16", name := "compress", desc := "([CI[BII)I" } : Jvm.MethodName) jdk_52_method_21_code (7 : Nat) (Option.some Jvm.ClassFile.FieldType.int)).before args0 about1 = true := code_word (m := ⟨8, 3⟩) (meth := k8m3) (c := k8c3) (by decide +kernel) rfl rfl rfl (by decide +kernel)
set_option maxRecDepth 65536 in
theorem w_c6 : (Jvm.Cond.code ({ cls := "java/lang/StringUTF16", name := "coderFromArrayLen", desc := "([BI)B" } : Jvm.MethodName) jdk_52_method_15_code (2 : Nat) (Option.some Jvm.ClassFile.FieldType.byte)).before args0 about1 = true := code_word (m := ⟨8, 1⟩) (meth := k8m1) (c := k8c1) (by decide +kernel) rfl rfl rfl (by decide +kernel)
set_option maxRecDepth 65536 in
theorem w_c7 : (Jvm.Cond.code ({ cls := "java/lang/String", name := "valueOf", desc := "(C)Ljava/lang/String;" } : Jvm.MethodName) jdk_42_method_139_code (1 : Nat) (Option.some (Jvm.ClassFile.FieldType.object "java/lang/String"))).before args0 about1 = true := code_word (m := ⟨7, 2⟩) (meth := k7m2) (c := k7c2) (by decide +kernel) rfl rfl rfl (by decide +kernel)
set_option maxRecDepth 65536 in
theorem w_c8 : (Jvm.Cond.code ({ cls := "java/lang/StringLatin1", name := "canEncode", desc := "(C)Z" } : Jvm.MethodName) jdk_43_method_3_code (1 : Nat) (Option.some Jvm.ClassFile.FieldType.boolean)).before args0 about1 = true := code_word (m := ⟨9, 1⟩) (meth := k9m1) (c := k9c1) (by decide +kernel) rfl rfl rfl (by decide +kernel)
set_option maxRecDepth 65536 in
theorem w_c9 : (Jvm.Cond.code ({ cls := "java/lang/StringLatin1", name := "toBytes", desc := "(C)[B" } : Jvm.MethodName) jdk_43_method_46_code (1 : Nat) (Option.some (Jvm.ClassFile.FieldType.array Jvm.ClassFile.FieldType.byte))).before args0 about1 = true := code_word (m := ⟨9, 2⟩) (meth := k9m2) (c := k9c2) (by decide +kernel) rfl rfl rfl (by decide +kernel)
set_option maxRecDepth 65536 in
theorem w_c10 : (Jvm.Cond.code ({ cls := "java/lang/String", name := "<init>", desc := "([BB)V" } : Jvm.MethodName) jdk_42_method_151_code (3 : Nat) (Option.none : Option Jvm.ClassFile.FieldType)).before args0 about1 = true := code_word (m := ⟨7, 4⟩) (meth := k7m4) (c := k7c4) (by decide +kernel) rfl rfl rfl (by decide +kernel)
set_option maxRecDepth 65536 in
theorem w_c11 : (Jvm.Cond.code ({ cls := "java/util/ArrayList", name := "<init>", desc := "()V" } : Jvm.MethodName) jdk_38_method_2_code (1 : Nat) (Option.none : Option Jvm.ClassFile.FieldType)).before args0 about1 = true := code_word (m := ⟨18, 0⟩) (meth := k18m0) (c := k18c0) (by decide +kernel) rfl rfl rfl (by decide +kernel)
set_option maxRecDepth 65536 in
theorem w_c12 : (Jvm.Cond.code ({ cls := "java/util/AbstractList", name := "<init>", desc := "()V" } : Jvm.MethodName) jdk_39_method_1_code (1 : Nat) (Option.none : Option Jvm.ClassFile.FieldType)).before args0 about1 = true := code_word (m := ⟨15, 0⟩) (meth := k15m0) (c := k15c0) (by decide +kernel) rfl rfl rfl (by decide +kernel)
set_option maxRecDepth 65536 in
theorem w_c13 : (Jvm.Cond.code ({ cls := "java/util/AbstractCollection", name := "<init>", desc := "()V" } : Jvm.MethodName) jdk_22_method_1_code (1 : Nat) (Option.none : Option Jvm.ClassFile.FieldType)).before args0 about1 = true := code_word (m := ⟨12, 0⟩) (meth := k12m0) (c := k12c0) (by decide +kernel) rfl rfl rfl (by decide +kernel)
set_option maxRecDepth 65536 in
theorem w_c14 : (Jvm.Cond.code ({ cls := "com/example/ledgerleaf/ledgerleaf/Element", name := "<init>", desc := "(Ljava/lang/String;Ljava/lang/String;Ljava/util/List;)V" } : Jvm.MethodName) prog_31_method_1_code (4 : Nat) (Option.none : Option Jvm.ClassFile.FieldType)).before args0 about1 = true := code_word (m := ⟨20, 0⟩) (meth := k20m0) (c := k20c0) (by decide +kernel) rfl rfl rfl (by decide +kernel)
set_option maxRecDepth 65536 in
theorem w_c15 : (Jvm.Cond.code ({ cls := "java/lang/Record", name := "<init>", desc := "()V" } : Jvm.MethodName) jdk_30_method_1_code (1 : Nat) (Option.none : Option Jvm.ClassFile.FieldType)).before args0 about1 = true := code_word (m := ⟨19, 0⟩) (meth := k19m0) (c := k19c0) (by decide +kernel) rfl rfl rfl (by decide +kernel)
set_option maxRecDepth 65536 in
theorem w_c16 : (Jvm.Cond.code ({ cls := "com/example/ledgerleaf/ledgerleaf/Element", name := "holdsText", desc := "()Z" } : Jvm.MethodName) prog_31_method_5_code (1 : Nat) (Option.some Jvm.ClassFile.FieldType.boolean)).before args0 about1 = true := code_word (m := ⟨20, 1⟩) (meth := k20m1) (c := k20c1) (by decide +kernel) rfl rfl rfl (by decide +kernel)
set_option maxRecDepth 65536 in
theorem w_c17 : (Jvm.Cond.code ({ cls := "java/util/ArrayList", name := "add", desc := "(Ljava/lang/Object;)Z" } : Jvm.MethodName) jdk_38_method_25_code (2 : Nat) (Option.some Jvm.ClassFile.FieldType.boolean)).before args0 about1 = true := code_word (m := ⟨18, 4⟩) (meth := k18m4) (c := k18c4) (by decide +kernel) rfl rfl rfl (by decide +kernel)
set_option maxRecDepth 65536 in
theorem w_c18 : (Jvm.Cond.code ({ cls := "java/util/ArrayList", name := "add", desc := "(Ljava/lang/Object;[Ljava/lang/Object;I)V" } : Jvm.MethodName) jdk_38_method_24_code (4 : Nat) (Option.none : Option Jvm.ClassFile.FieldType)).before args0 about1 = true := code_word (m := ⟨18, 3⟩) (meth := k18m3) (c := k18c3) (by decide +kernel) rfl rfl rfl (by decide +kernel)
set_option maxRecDepth 65536 in
theorem w_c19 : (Jvm.Cond.code ({ cls := "java/util/ArrayList", name := "grow", desc := "()[Ljava/lang/Object;" } : Jvm.MethodName) jdk_38_method_7_code (1 : Nat) (Option.some (Jvm.ClassFile.FieldType.array (Jvm.ClassFile.FieldType.object "java/lang/Object")))).before args0 about1 = true := code_word (m := ⟨18, 2⟩) (meth := k18m2) (c := k18c2) (by decide +kernel) rfl rfl rfl (by decide +kernel)
set_option maxRecDepth 65536 in
theorem w_c20 : (Jvm.Cond.code ({ cls := "java/util/ArrayList", name := "grow", desc := "(I)[Ljava/lang/Object;" } : Jvm.MethodName) jdk_38_method_6_code (4 : Nat) (Option.some (Jvm.ClassFile.FieldType.array (Jvm.ClassFile.FieldType.object "java/lang/Object")))).before args0 about1 = true := code_word (m := ⟨18, 1⟩) (meth := k18m1) (c := k18c1) (by decide +kernel) rfl rfl rfl (by decide +kernel)
set_option maxRecDepth 65536 in
theorem w_c21 : (Jvm.Cond.code ({ cls := "java/lang/Math", name := "max", desc := "(II)I" } : Jvm.MethodName) jdk_29_method_65_code (2 : Nat) (Option.some Jvm.ClassFile.FieldType.int)).before args0 about1 = true := code_word (m := ⟨21, 1⟩) (meth := k21m1) (c := k21c1) (by decide +kernel) rfl rfl rfl (by decide +kernel)
def codes1 : List Jvm.Cond := [Jvm.Cond.code x code maxLocals ret, Jvm.Cond.code ({ cls := "java/lang/String", name := "<init>", desc := "([C)V" } : Jvm.MethodName) jdk_42_method_3_code (2 : Nat) (Option.none : Option Jvm.ClassFile.FieldType), Jvm.Cond.code ({ cls := "java/lang/String", name := "<init>", desc := "([CIILjava/lang/Void;)V" } : Jvm.MethodName) jdk_42_method_149_code (6 : Nat) (Option.none : Option Jvm.ClassFile.FieldType), Jvm.Cond.code ({ cls := "java/lang/Object", name := "<init>", desc := "()V" } : Jvm.MethodName) object_method_1_code (1 : Nat) (Option.none : Option Jvm.ClassFile.FieldType), Jvm.Cond.code ({ cls := "java/lang/StringUTF16", name := "compress", desc := "([CII)[B" } : Jvm.MethodName) jdk_52_method_16_code (6 : Nat) (Option.some (Jvm.ClassFile.FieldType.array Jvm.ClassFile.FieldType.byte)), Jvm.Cond.code ({ cls := "java/lang/StringUTF16", name := "compress", desc := "([CI[BII)I" } : Jvm.MethodName) jdk_52_method_21_code (7 : Nat) (Option.some Jvm.ClassFile.FieldType.int), Jvm.Cond.code ({ cls := "java/lang/StringUTF16", name := "coderFromArrayLen", desc := "([BI)B" } : Jvm.MethodName) jdk_52_method_15_code (2 : Nat) (Option.some Jvm.ClassFile.FieldType.byte), Jvm.Cond.code ({ cls := "java/lang/String", name := "valueOf", desc := "(C)Ljava/lang/String;" } : Jvm.MethodName) jdk_42_method_139_code (1 : Nat) (Option.some (Jvm.ClassFile.FieldType.object "java/lang/String")), Jvm.Cond.code ({ cls := "java/lang/StringLatin1", name := "canEncode", desc := "(C)Z" } : Jvm.MethodName) jdk_43_method_3_code (1 : Nat) (Option.some Jvm.ClassFile.FieldType.boolean), Jvm.Cond.code ({ cls := "java/lang/StringLatin1", name := "toBytes", desc := "(C)[B" } : Jvm.MethodName) jdk_43_method_46_code (1 : Nat) (Option.some (Jvm.ClassFile.FieldType.array Jvm.ClassFile.FieldType.byte)), Jvm.Cond.code ({ cls := "java/lang/String", name := "<init>", desc := "([BB)V" } : Jvm.MethodName) jdk_42_method_151_code (3 : Nat) (Option.none : Option Jvm.ClassFile.FieldType), Jvm.Cond.code ({ cls := "java/util/ArrayList", name := "<init>", desc := "()V" } : Jvm.MethodName) jdk_38_method_2_code (1 : Nat) (Option.none : Option Jvm.ClassFile.FieldType), Jvm.Cond.code ({ cls := "java/util/AbstractList", name := "<init>", desc := "()V" } : Jvm.MethodName) jdk_39_method_1_code (1 : Nat) (Option.none : Option Jvm.ClassFile.FieldType), Jvm.Cond.code ({ cls := "java/util/AbstractCollection", name := "<init>", desc := "()V" } : Jvm.MethodName) jdk_22_method_1_code (1 : Nat) (Option.none : Option Jvm.ClassFile.FieldType), Jvm.Cond.code ({ cls := "com/example/ledgerleaf/ledgerleaf/Element", name := "<init>", desc := "(Ljava/lang/String;Ljava/lang/String;Ljava/util/List;)V" } : Jvm.MethodName) prog_31_method_1_code (4 : Nat) (Option.none : Option Jvm.ClassFile.FieldType), Jvm.Cond.code ({ cls := "java/lang/Record", name := "<init>", desc := "()V" } : Jvm.MethodName) jdk_30_method_1_code (1 : Nat) (Option.none : Option Jvm.ClassFile.FieldType), Jvm.Cond.code ({ cls := "com/example/ledgerleaf/ledgerleaf/Element", name := "holdsText", desc := "()Z" } : Jvm.MethodName) prog_31_method_5_code (1 : Nat) (Option.some Jvm.ClassFile.FieldType.boolean), Jvm.Cond.code ({ cls := "java/util/ArrayList", name := "add", desc := "(Ljava/lang/Object;)Z" } : Jvm.MethodName) jdk_38_method_25_code (2 : Nat) (Option.some Jvm.ClassFile.FieldType.boolean), Jvm.Cond.code ({ cls := "java/util/ArrayList", name := "add", desc := "(Ljava/lang/Object;[Ljava/lang/Object;I)V" } : Jvm.MethodName) jdk_38_method_24_code (4 : Nat) (Option.none : Option Jvm.ClassFile.FieldType), Jvm.Cond.code ({ cls := "java/util/ArrayList", name := "grow", desc := "()[Ljava/lang/Object;" } : Jvm.MethodName) jdk_38_method_7_code (1 : Nat) (Option.some (Jvm.ClassFile.FieldType.array (Jvm.ClassFile.FieldType.object "java/lang/Object"))), Jvm.Cond.code ({ cls := "java/util/ArrayList", name := "grow", desc := "(I)[Ljava/lang/Object;" } : Jvm.MethodName) jdk_38_method_6_code (4 : Nat) (Option.some (Jvm.ClassFile.FieldType.array (Jvm.ClassFile.FieldType.object "java/lang/Object"))), Jvm.Cond.code ({ cls := "java/lang/Math", name := "max", desc := "(II)I" } : Jvm.MethodName) jdk_29_method_65_code (2 : Nat) (Option.some Jvm.ClassFile.FieldType.int)]
set_option maxRecDepth 65536 in
theorem codes_eq : words1.filter isCode = codes1 := rfl
theorem w_codes : ∀ c ∈ words1.filter isCode, c.before args0 about1 = true := by
  rw [codes_eq]
  intro c hc
  simp only [codes1, List.mem_cons, List.not_mem_nil, or_false] at hc
  rcases hc with rfl | rfl | rfl | rfl | rfl | rfl | rfl | rfl | rfl | rfl | rfl | rfl | rfl | rfl | rfl | rfl | rfl | rfl | rfl | rfl | rfl | rfl
  · exact w_c0
  · exact w_c1
  · exact w_c2
  · exact w_c3
  · exact w_c4
  · exact w_c5
  · exact w_c6
  · exact w_c7
  · exact w_c8
  · exact w_c9
  · exact w_c10
  · exact w_c11
  · exact w_c12
  · exact w_c13
  · exact w_c14
  · exact w_c15
  · exact w_c16
  · exact w_c17
  · exact w_c18
  · exact w_c19
  · exact w_c20
  · exact w_c21
set_option maxRecDepth 65536 in
theorem w_t1 : (words1.take 24).all (fun c => isCode c || c.before args0 about1) = true := by decide +kernel
set_option maxRecDepth 65536 in
theorem w_t2 : ((words1.drop 24).take 24).all (fun c => isCode c || c.before args0 about1) = true := by decide +kernel
set_option maxRecDepth 65536 in
theorem w_t3 : (((words1.drop 24).drop 24).take 24).all (fun c => isCode c || c.before args0 about1) = true := by decide +kernel
set_option maxRecDepth 65536 in
theorem w_t4 : ((((words1.drop 24).drop 24).drop 24).take 24).all (fun c => isCode c || c.before args0 about1) = true := by decide +kernel
set_option maxRecDepth 65536 in
theorem w_t5 : (((((words1.drop 24).drop 24).drop 24).drop 24).take 24).all (fun c => isCode c || c.before args0 about1) = true := by decide +kernel
set_option maxRecDepth 65536 in
theorem w_t6 : (((((words1.drop 24).drop 24).drop 24).drop 24).drop 24).all (fun c => isCode c || c.before args0 about1) = true := by decide +kernel
theorem w_tables : (allAtoms (Jvm.Cond.code x code maxLocals ret :: tables_1)).before args0 about1 = true := by
  rw [allAtoms_all]
  show words1.all (fun c => c.before args0 about1) = true
  refine all_split ?_ w_codes
  rw [← List.take_append_drop 24 words1, List.all_append, w_t1, ← List.take_append_drop 24 (words1.drop 24), List.all_append, w_t2, ← List.take_append_drop 24 ((words1.drop 24).drop 24), List.all_append, w_t3, ← List.take_append_drop 24 (((words1.drop 24).drop 24).drop 24), List.all_append, w_t4, ← List.take_append_drop 24 ((((words1.drop 24).drop 24).drop 24).drop 24), List.all_append, w_t5, w_t6]
  rfl
set_option maxRecDepth 65536 in
theorem w_rest : rest_1_c.before args0 about1 = true := by decide +kernel
set_option maxRecDepth 65536 in
theorem w_case : (Jvm.Cond.and given_1 narrow_1).before args0 about1 = true := by decide +kernel
set_option maxRecDepth 65536 in
theorem w_consts : constsHeld consts_1 about1 := Jvm.Lit.constsHeldB_iff.mp (by decide +kernel)
theorem w_applies : (headSpec (Jvm.Cond.code x code maxLocals ret :: tables_1) room_1).applies x e0.platform about1 = true :=
  (Spec.applies_iff w_frames).mpr ⟨w_running, w_runnable, w_alone, w_named, w_hears, w_ripe, w_room, w_tables⟩
theorem atStart : AtStart classFile x code maxLocals ret World_1 tables_1 room_1 Calls_1 rest_1 Pre_1 launch0 p0 e0 about1 theMethod args0 below0 :=
  ⟨lists_1, trivial, launch0.admits_env _ _ _, launch0.least_env, fairChoices_fair.cas, fairChoices_fair.clock, w_frames, w_args, w_heap, w_applies, ⟨w_consts, trivial⟩, w_rest, w_case⟩
end start1
theorem witness_1 : WitnessClaimed_1 := ⟨start1.p0, start1.e0, start1.about1, start1.theMethod, start1.args0, start1.below0, start1.atStart⟩
end Jvm.Pilot.@@N@@
