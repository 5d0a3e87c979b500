import JvmDerived
import JvmDerived.Pilot.@@N@@Statement
import JvmDerived.Pilot.@@N@@Code
set_option linter.unusedVariables false
set_option linter.unusedSimpArgs false
/- laws to paste: Road.backV, Road.lenW, Road.codOf (cut by pick.py; bodies as the Statement names them) -/
namespace Jvm.Pilot.@@N@@
namespace StrChars
open Jvm Sem ClassFile Op Lib Jvm.Stand Jvm.Free.XT Jvm.Free.ALB Jvm.Free.JM Jvm.Free
open Jvm.Lib.Cold (StaticIs)
/-- a char array whose places are chars -/
def Ch (a : Addr) (A : Cell) (U : State) : Prop := Arr .char a A U ∧ Typed .char A
theorem Ch.mv {a : Addr} {A : Cell} {U U' : State} (h : Ch a A U) (hal : U.vm.Alike U'.vm) (hh : U'.heap = U.heap) : Ch a A U' := ⟨h.1.mv hal hh, h.2⟩
theorem Ch.keep {a : Addr} {A : Cell} {U U' : State} (h : Ch a A U) (hal : U.vm.Alike U'.vm) (hk : U'.heap[a]? = some A) : Ch a A U' := ⟨h.1.keep hal hk, h.2⟩
/-- what place i of a char[]'s cell holds -/
def cv (A : Cell) (i : Nat) : Int32 := match A.slots[i]? with | some (.int x) => x | _ => 0
theorem Ch.get {a : Addr} {A : Cell} {U : State} (h : Ch a A U) {i : Nat} (hi : i < A.slots.size) : A.slots[i]? = some (.int (cv A i)) := by
  have e := Array.getElem?_eq_getElem hi
  have f := h.2 i _ e
  unfold cv; rw [e]
  generalize A.slots[i] = v at f
  cases v <;> simp [fits] at f ⊢
/-- the byte that i2b leaves of a char -/
def lo8 (x : Int32) : Int32 := x.toInt8.toInt32
theorem fits_lo8 (y : Int32) : fits .byte (.int (lo8 y)) = true := by
  have h1 := y.toInt8.le_toInt
  have h2 := y.toInt8.toInt_lt
  simp only [lo8, fits, Bool.and_eq_true, decide_eq_true_eq, Int32.le_iff_toInt_le, Int8.toInt_toInt32, show (-128 : Int32).toInt = -128 from by decide, show (127 : Int32).toInt = 127 from by decide]
  omega
/-- A' is A but that each place j of lo .. hi - 1 holds f j -/
def Laid (A A' : Cell) (lo hi : Nat) (f : Nat → Value) : Prop := A'.cls = A.cls ∧ A'.vm = A.vm ∧ A'.slots.size = A.slots.size ∧ ∀ i, A'.slots[i]? = if lo ≤ i ∧ i < hi then some (f i) else A.slots[i]?
theorem Laid.zero (A : Cell) (lo : Nat) (f : Nat → Value) : Laid A A lo (lo + 0) f := ⟨rfl, rfl, rfl, fun i => by rw [if_neg (by omega)]⟩
theorem Laid.step {A Ak : Cell} {lo k : Nat} {f : Nat → Value} {v : Value} (h : Laid A Ak lo k f) (hlo : lo ≤ k) (hk : k < Ak.slots.size) (hv : v = f k) : Laid A (Ak.setSlot k v) lo (k + 1) f := by
  refine ⟨h.1, h.2.1, by simpa [Cell.setSlot] using h.2.2.1, fun i => ?_⟩
  by_cases e : k = i
  · subst e; rw [Cell.slots_setSlot_self v hk, if_pos (by omega), hv]
  · rw [Cell.slots_setSlot_ne v e, h.2.2.2 i]
    by_cases q : lo ≤ i ∧ i < k
    · rw [if_pos q, if_pos (by omega)]
    · rw [if_neg q, if_neg (by omega)]
def U16 : String := "java/lang/StringUTF16"
namespace Cmp5
def yN : MethodName := ⟨"java/lang/StringUTF16", "compress", "([CI[BII)I"⟩
abbrev yB : ByteArray := jdk_52_method_21_code
theorem d0 : decode yB 0 = .ok (.iconst 0, 1) := by decide +kernel
theorem d1 : decode yB 1 = .ok (.istore 5, 2) := by decide +kernel
theorem d3 : decode yB 3 = .ok (.iload 5, 2) := by decide +kernel
theorem d5 : decode yB 5 = .ok (.iload 4, 2) := by decide +kernel
theorem d7 : decode yB 7 = .ok (.if_icmp (.ge) 37, 3) := by decide +kernel
theorem d10 : decode yB 10 = .ok (.aload_n 0, 1) := by decide +kernel
theorem d11 : decode yB 11 = .ok (.iload_n 1, 1) := by decide +kernel
theorem d12 : decode yB 12 = .ok (.caload, 1) := by decide +kernel
theorem d13 : decode yB 13 = .ok (.istore 6, 2) := by decide +kernel
theorem d15 : decode yB 15 = .ok (.iload 6, 2) := by decide +kernel
theorem d17 : decode yB 17 = .ok (.sipush 255, 3) := by decide +kernel
theorem d20 : decode yB 20 = .ok (.if_icmp (.le) 6, 3) := by decide +kernel
theorem d26 : decode yB 26 = .ok (.aload_n 2, 1) := by decide +kernel
theorem d27 : decode yB 27 = .ok (.iload_n 3, 1) := by decide +kernel
theorem d28 : decode yB 28 = .ok (.iload 6, 2) := by decide +kernel
theorem d30 : decode yB 30 = .ok (.i2b, 1) := by decide +kernel
theorem d31 : decode yB 31 = .ok (.bastore, 1) := by decide +kernel
theorem d32 : decode yB 32 = .ok (.iinc 1 1, 3) := by decide +kernel
theorem d35 : decode yB 35 = .ok (.iinc 3 1, 3) := by decide +kernel
theorem d38 : decode yB 38 = .ok (.iinc 5 1, 3) := by decide +kernel
theorem d41 : decode yB 41 = .ok (.goto (-38), 3) := by decide +kernel
theorem d44 : decode yB 44 = .ok (.iload 4, 2) := by decide +kernel
theorem d46 : decode yB 46 = .ok (.ireturn, 1) := by decide +kernel
def site : List Cond := []
def tab : Cond := tabOf yN yB 7 (some .int) site
def P (b : Addr) (A : Cell) (d : Addr) (B : Cell) (o q len : Nat) (args : Array Value) (s : State) : Prop := args = #[.ref b, .int (Int32.ofNat o), .ref d, .int (Int32.ofNat q), .int (Int32.ofNat len)] ∧ Ch b A s ∧ Arr .byte d B s ∧ b ≠ d ∧ o + len ≤ A.slots.size ∧ q + len ≤ B.slots.size ∧ ∀ i, i < len → ¬ 255 < cv A (o + i)
def E (b : Addr) (A : Cell) (d : Addr) (B : Cell) (o q len : Nat) (r : Option Value) (s u : State) : Prop := r = some (.int (Int32.ofNat len)) ∧ ∃ B', Put d B' s u ∧ Laid B B' q (q + len) (fun j => Value.int (lo8 (cv A (o + (j - q)))))
/-- no char of the range above 255: len; the places written hold each char's low byte -/
theorem law (l : Launch) (b : Addr) (A : Cell) (d : Addr) (B : Cell) (o q len : Nat) : Law l yN 5 5 0 0 yB 7 (some .int) site (P b A d B o q len) (E b A d B o q len) (copyLocs d q len) 0 0 := by
  refine Law.of_walk (plainFor_of_name (by decide +kernel)) (by decide +kernel) (by decide +kernel) (by decide) (fun _ _ h => by rw [h.1]; rfl) (fun _ U U' hal hh h => ⟨h.1, h.2.1.mv hal hh, h.2.2.1.mv hal hh, h.2.2.2⟩) (fun r U U' V V' h1 hal h2 h => ⟨h.1, h.2.elim fun B' q => ⟨B', q.1.mv h1 h2, q.2⟩⟩) ?_
  intro p e s m args below meth c s₁ X0 hexec hbytes hml hret hlk hnm hown hh0 W hP
  obtain ⟨rfl, hA, hB, hne, l1, l2, hp⟩ := hP
  have c1 : Steps p.tables e below (s₁.setTop (entryFrame m #[.ref b, .int (Int32.ofNat o), .ref d, .int (Int32.ofNat q), .int (Int32.ofNat len)] 7)) (s₁.setTop (mkF m 0 #[.val (.ref b), .val (.int (Int32.ofNat o)), .val (.ref d), .val (.int (Int32.ofNat q)), .val (.int (Int32.ofNat len)), .unset, .unset] [])) := entry rfl
  have hA0 := hA.1.mv X0.warmed.alike hh0
  have hB0 := hB.mv X0.warmed.alike hh0
  have a31 := hA.1.2.2.2
  have c2 : Steps p.tables e below (s₁.setTop (entryFrame m #[.ref b, .int (Int32.ofNat o), .ref d, .int (Int32.ofNat q), .int (Int32.ofNat len)] 7)) (s₁.setTop (mkF m 3 #[.val (.ref b), .val (.int (Int32.ofNat o)), .val (.ref d), .val (.int (Int32.ofNat q)), .val (.int (Int32.ofNat len)), .val (.int 0), .unset] [])) := c1.trans (by
    refine iconstV X0.here hexec rfl 0 (hb hbytes d0) (by decide) ?_
    refine XS.istore X0.here hexec rfl (hb hbytes d1) rfl rfl ?_
    exact Steps.refl _)
  have loop : ∀ (r i : Nat), i + r = len → ∀ (z : Slot), (z = .unset ∨ ∃ w, z = .val w ∧ w.category = 1) → ∀ (Tl : State) (Bk : Cell), Stand p l e { frames := 0, locals := 0, cells := 0, slots := 0 } s m #[.ref b, .int (Int32.ofNat o), .ref d, .int (Int32.ofNat q), .int (Int32.ofNat len)] below meth c Tl ([] ++ copyLocs d q i) 0 0 → Put d Bk s₁ Tl → Laid B Bk q (q + i) (fun j => Value.int (lo8 (cv A (o + (j - q))))) →
      Steps p.tables e below (s₁.setTop (entryFrame m #[.ref b, .int (Int32.ofNat o), .ref d, .int (Int32.ofNat q), .int (Int32.ofNat len)] 7)) (Tl.setTop (mkF m 3 #[.val (.ref b), .val (.int (Int32.ofNat (o + i))), .val (.ref d), .val (.int (Int32.ofNat (q + i))), .val (.int (Int32.ofNat len)), .val (.int (Int32.ofNat i)), z] [])) → ∃ (T' : State) (B' : Cell) (z' : Slot), Stand p l e { frames := 0, locals := 0, cells := 0, slots := 0 } s m #[.ref b, .int (Int32.ofNat o), .ref d, .int (Int32.ofNat q), .int (Int32.ofNat len)] below meth c T' ([] ++ copyLocs d q len) 0 0 ∧ Put d B' s₁ T' ∧ Laid B B' q (q + len) (fun j => Value.int (lo8 (cv A (o + (j - q))))) ∧
      Steps p.tables e below (s₁.setTop (entryFrame m #[.ref b, .int (Int32.ofNat o), .ref d, .int (Int32.ofNat q), .int (Int32.ofNat len)] 7)) (T'.setTop (mkF m 3 #[.val (.ref b), .val (.int (Int32.ofNat (o + len))), .val (.ref d), .val (.int (Int32.ofNat (q + len))), .val (.int (Int32.ofNat len)), .val (.int (Int32.ofNat len)), z'] [])) := by
    intro r
    induction r with
    | zero =>
      intro i hi z hz Tl Bk Xl pl fl cl
      have hil : i = len := by omega
      rw [hil] at Xl fl cl
      exact ⟨Tl, Bk, z, Xl, pl, fl, cl⟩
    | succ r ih =>
      intro i hi z hz Tl Bk Xl pl fl cl
      have all := X0.warmed.alike.symm.trans Xl.warmed.alike
      have hAl := hA0.keep all (pl.other hne hA0.1)
      have hBk := hB0.like all pl.1 fl.1 fl.2.1 fl.2.2.1
      have hlt : q + i < Bk.slots.size := by rw [fl.2.2.1]; omega
      have c3 : Steps p.tables e below (s₁.setTop (entryFrame m #[.ref b, .int (Int32.ofNat o), .ref d, .int (Int32.ofNat q), .int (Int32.ofNat len)] 7)) (Tl.setTop (mkF m 12 #[.val (.ref b), .val (.int (Int32.ofNat (o + i))), .val (.ref d), .val (.int (Int32.ofNat (q + i))), .val (.int (Int32.ofNat len)), .val (.int (Int32.ofNat i)), z] [.int (Int32.ofNat (o + i)), .ref b])) := cl.trans (by
        refine XS.iload Xl.here hexec rfl (hb hbytes d3) rfl ?_
        refine XS.iload Xl.here hexec rfl (hb hbytes d5) rfl ?_
        refine XS.icmpNo Xl.here hexec rfl (hb hbytes d7) rfl (ii_ge_f (lt32 (by omega) (by omega))) ?_
        refine XS.aloadN Xl.here hexec rfl (hb hbytes d10) rfl rfl ?_
        refine XS.iloadN Xl.here hexec rfl (hb hbytes d11) rfl ?_
        exact Steps.refl _)
      have c4 : Steps p.tables e below (s₁.setTop (entryFrame m #[.ref b, .int (Int32.ofNat o), .ref d, .int (Int32.ofNat q), .int (Int32.ofNat len)] 7)) (Tl.setTop (mkF m 13 #[.val (.ref b), .val (.int (Int32.ofNat (o + i))), .val (.ref d), .val (.int (Int32.ofNat (q + i))), .val (.int (Int32.ofNat len)), .val (.int (Int32.ofNat i)), z] [.int (cv A (o + i))])) := c3.trans (by
        refine Xl.aget hexec hAl rfl (hA.get (i := o + i) (by omega)) rfl rfl (hb hbytes d12) ?_
        exact Steps.refl _)
      have c5 : Steps p.tables e below (s₁.setTop (entryFrame m #[.ref b, .int (Int32.ofNat o), .ref d, .int (Int32.ofNat q), .int (Int32.ofNat len)] 7)) (Tl.setTop (mkF m 15 #[.val (.ref b), .val (.int (Int32.ofNat (o + i))), .val (.ref d), .val (.int (Int32.ofNat (q + i))), .val (.int (Int32.ofNat len)), .val (.int (Int32.ofNat i)), .val (.int (cv A (o + i)))] [])) := c4.trans (by
        refine XS.istoreS Xl.here hexec rfl (hb hbytes d13) rfl rfl hz ?_
        exact Steps.refl _)
      have c6 : Steps p.tables e below (s₁.setTop (entryFrame m #[.ref b, .int (Int32.ofNat o), .ref d, .int (Int32.ofNat q), .int (Int32.ofNat len)] 7)) (Tl.setTop (mkF m 31 #[.val (.ref b), .val (.int (Int32.ofNat (o + i))), .val (.ref d), .val (.int (Int32.ofNat (q + i))), .val (.int (Int32.ofNat len)), .val (.int (Int32.ofNat i)), .val (.int (cv A (o + i)))] [.int (lo8 (cv A (o + i))), .int (Int32.ofNat (q + i)), .ref d])) := c5.trans (by
        refine XS.iload Xl.here hexec rfl (hb hbytes d15) rfl ?_
        refine sipushV Xl.here hexec rfl 255 (hb hbytes d17) (by decide) ?_
        refine XS.icmpYes Xl.here hexec rfl (pc0 := 20) rfl (hb hbytes d20) rfl (ii_le_t (hp i (by omega))) (by decide) rfl ?_
        refine XS.aloadN Xl.here hexec rfl (hb hbytes d26) rfl rfl ?_
        refine XS.iloadN Xl.here hexec rfl (hb hbytes d27) rfl ?_
        refine XS.iload Xl.here hexec rfl (hb hbytes d28) rfl ?_
        refine i2b Xl.here hexec rfl (hb hbytes d30) rfl ?_
        exact Steps.refl _)
      obtain ⟨T7, X7, p7, st7⟩ := Xl.aput hexec hBk rfl hlt rfl (fits_lo8 (cv A (o + i))) (g := (mkF m 31 #[.val (.ref b), .val (.int (Int32.ofNat (o + i))), .val (.ref d), .val (.int (Int32.ofNat (q + i))), .val (.int (Int32.ofNat len)), .val (.int (Int32.ofNat i)), .val (.int (cv A (o + i)))] [.int (lo8 (cv A (o + i))), .int (Int32.ofNat (q + i)), .ref d])) rfl (rest := []) rfl (hb hbytes d31)
      have c8 : Steps p.tables e below (s₁.setTop (entryFrame m #[.ref b, .int (Int32.ofNat o), .ref d, .int (Int32.ofNat q), .int (Int32.ofNat len)] 7)) (T7.setTop (mkF m 32 #[.val (.ref b), .val (.int (Int32.ofNat (o + i))), .val (.ref d), .val (.int (Int32.ofNat (q + i))), .val (.int (Int32.ofNat len)), .val (.int (Int32.ofNat i)), .val (.int (cv A (o + i)))] [])) := c6.trans (st7 _ (Steps.refl _))
      have c9 : Steps p.tables e below (s₁.setTop (entryFrame m #[.ref b, .int (Int32.ofNat o), .ref d, .int (Int32.ofNat q), .int (Int32.ofNat len)] 7)) (T7.setTop (mkF m 3 #[.val (.ref b), .val (.int (Int32.ofNat (o + i) + 1)), .val (.ref d), .val (.int (Int32.ofNat (q + i) + 1)), .val (.int (Int32.ofNat len)), .val (.int (Int32.ofNat i + 1)), .val (.int (cv A (o + i)))] [])) := c8.trans (by
        refine iincV X7.here hexec rfl 1 (hb hbytes d32) (by decide) rfl rfl ?_
        refine iincV X7.here hexec rfl 1 (hb hbytes d35) (by decide) rfl rfl ?_
        refine iincV X7.here hexec rfl 1 (hb hbytes d38) (by decide) rfl rfl ?_
        refine XS.goto X7.here hexec rfl (pc0 := 41) rfl (hb hbytes d41) (by decide) rfl ?_
        exact Steps.refl _)
      have c10 : Steps p.tables e below (s₁.setTop (entryFrame m #[.ref b, .int (Int32.ofNat o), .ref d, .int (Int32.ofNat q), .int (Int32.ofNat len)] 7)) (T7.setTop (mkF m 3 #[.val (.ref b), .val (.int (Int32.ofNat (o + (i + 1)))), .val (.ref d), .val (.int (Int32.ofNat (q + (i + 1)))), .val (.int (Int32.ofNat len)), .val (.int (Int32.ofNat (i + 1))), .val (.int (cv A (o + i)))] [])) := by
        have := c9
        rw [succ32, succ32, succ32] at this
        exact this
      exact ih (i + 1) (by omega) _ (Or.inr ⟨_, rfl, rfl⟩) T7 _ (by rw [copyLocs_step, ← List.append_assoc]; exact X7) (pl.trans p7) (fl.step (by omega) hlt (by simp)) c10
  obtain ⟨T9, B9, z9, X9, p9, f9, g9⟩ := loop len 0 (by omega) .unset (Or.inl rfl) s₁ B (by simpa [copyLocs] using X0) ⟨hB0.1, fun _ _ => rfl, rfl⟩ (Laid.zero _ _ _) c2
  have c11 : Steps p.tables e below (s₁.setTop (entryFrame m #[.ref b, .int (Int32.ofNat o), .ref d, .int (Int32.ofNat q), .int (Int32.ofNat len)] 7)) (T9.setTop (mkF m 46 #[.val (.ref b), .val (.int (Int32.ofNat (o + len))), .val (.ref d), .val (.int (Int32.ofNat (q + len))), .val (.int (Int32.ofNat len)), .val (.int (Int32.ofNat len)), z9] [.int (Int32.ofNat len)])) := g9.trans (by
    refine XS.iload X9.here hexec rfl (hb hbytes d3) rfl ?_
    refine XS.iload X9.here hexec rfl (hb hbytes d5) rfl ?_
    refine XS.icmpYes X9.here hexec rfl (pc0 := 7) rfl (hb hbytes d7) rfl (ii_ge_t (nlt32 (by omega) (Nat.le_refl _))) (by decide) rfl ?_
    refine XS.iload X9.here hexec rfl (hb hbytes d44) rfl ?_
    exact Steps.refl _)
  exact ⟨T9, some (.int (Int32.ofNat len)), _, _, _, X9, by simp, rfl, rfl, (fun h => by cases h), ⟨rfl, B9, p9.from hh0, f9⟩, fun fs hl => c11.trans (X9.ireturnOut hexec hret rfl (Or.inl rfl) (hb hbytes d46) hl)⟩
end Cmp5
namespace Cmp3
def yN : MethodName := ⟨"java/lang/StringUTF16", "compress", "([CII)[B"⟩
abbrev yB : ByteArray := jdk_52_method_16_code
theorem d0 : decode yB 0 = .ok (.iload_n 2, 1) := by decide +kernel
theorem d1 : decode yB 1 = .ok (.newarray .byte, 2) := by decide +kernel
theorem d3 : decode yB 3 = .ok (.astore_n 3, 1) := by decide +kernel
theorem d4 : decode yB 4 = .ok (.aload_n 0, 1) := by decide +kernel
theorem d5 : decode yB 5 = .ok (.iload_n 1, 1) := by decide +kernel
theorem d6 : decode yB 6 = .ok (.aload_n 3, 1) := by decide +kernel
theorem d7 : decode yB 7 = .ok (.iconst 0, 1) := by decide +kernel
theorem d8 : decode yB 8 = .ok (.iload_n 2, 1) := by decide +kernel
theorem d9 : decode yB 9 = .ok (.invokestatic 115, 3) := by decide +kernel
theorem d12 : decode yB 12 = .ok (.istore 4, 2) := by decide +kernel
theorem d14 : decode yB 14 = .ok (.iload 4, 2) := by decide +kernel
theorem d16 : decode yB 16 = .ok (.iload_n 2, 1) := by decide +kernel
theorem d17 : decode yB 17 = .ok (.if_icmp (.eq) 40, 3) := by decide +kernel
theorem d57 : decode yB 57 = .ok (.aload_n 3, 1) := by decide +kernel
theorem d58 : decode yB 58 = .ok (.areturn, 1) := by decide +kernel
def site : List Cond := [.arrayClass .byte, Cmp5.tab] ++ staticW U16 115 Cmp5.yN
def tab : Cond := tabOf yN yB 6 (some (.array .byte)) site
def P (b : Addr) (A : Cell) (o len : Nat) (args : Array Value) (s : State) : Prop := args = #[.ref b, .int (Int32.ofNat o), .int (Int32.ofNat len)] ∧ Ch b A s ∧ o + len ≤ A.slots.size ∧ len ≤ 536870912 ∧ ∀ i, i < len → ¬ 255 < cv A (o + i)
def E (b : Addr) (A : Cell) (o len : Nat) (r : Option Value) (s u : State) : Prop := NewArr .byte "[B" len (fun j => .int (lo8 (cv A (o + j)))) r s u ∧ u.heap.size = s.heap.size + 1
/-- no char of the range above 255: a new byte[] of their low bytes -/
theorem law (l : Launch) (b : Addr) (A : Cell) (o len : Nat) : Law l yN 3 3 1 18 yB 6 (some (.array .byte)) site (P b A o len) (E b A o len) [] 1 len := by
  refine Law.of_walk (plainFor_of_name (by decide +kernel)) (by decide +kernel) (by decide +kernel) (by decide) (fun _ _ h => by rw [h.1]; rfl) (fun _ U U' hal hh h => ⟨h.1, h.2.1.mv hal hh, h.2.2⟩) (fun r U U' V V' h1 hal h2 h => ⟨NewArr.mv r U U' V V' h1 hal h2 h.1, by rw [h1, h2]; exact h.2⟩) ?_
  intro p e s m args below meth c s₁ X0 hexec hbytes hml hret hlk hnm hown hh0 W hP
  obtain ⟨rfl, hA, l1, l2, hp⟩ := hP
  have a31 := hA.1.2.2.2
  have c1 : Steps p.tables e below (s₁.setTop (entryFrame m #[.ref b, .int (Int32.ofNat o), .int (Int32.ofNat len)] 6)) (s₁.setTop (mkF m 0 #[.val (.ref b), .val (.int (Int32.ofNat o)), .val (.int (Int32.ofNat len)), .unset, .unset, .unset] [])) := entry rfl
  have c2 : Steps p.tables e below (s₁.setTop (entryFrame m #[.ref b, .int (Int32.ofNat o), .int (Int32.ofNat len)] 6)) (s₁.setTop (mkF m 1 #[.val (.ref b), .val (.int (Int32.ofNat o)), .val (.int (Int32.ofNat len)), .unset, .unset, .unset] [.int (Int32.ofNat len)])) := c1.trans (by
    refine XS.iloadN X0.here hexec rfl (hb hbytes d0) rfl ?_
    exact Steps.refl _)
  obtain ⟨T3, B3, X3, ba3, bs3, bv3, bh3, bf3, st3⟩ := X0.anew hexec (atype := .byte) (wk W (.arrayClass .byte)) rfl (by show len * 1 ≤ _; omega) (by omega) (g := (mkF m 1 #[.val (.ref b), .val (.int (Int32.ofNat o)), .val (.int (Int32.ofNat len)), .unset, .unset, .unset] [.int (Int32.ofNat len)])) rfl (hb hbytes d1) (rest := []) rfl (Nat.le_refl _) (by show 0 + len ≤ len; omega)
  rw [hh0] at ba3 st3
  have kp3 : XT.Kept s T3 := (XT.Kept.of_eq hh0).push bh3
  have hA3 := hA.keep X3.warmed.alike (kp3 _ _ hA.1.1)
  have hne : b ≠ s.heap.size := hA.1.ne
  have c4 : Steps p.tables e below (s₁.setTop (entryFrame m #[.ref b, .int (Int32.ofNat o), .int (Int32.ofNat len)] 6)) (T3.setTop (mkF m 3 #[.val (.ref b), .val (.int (Int32.ofNat o)), .val (.int (Int32.ofNat len)), .unset, .unset, .unset] [.ref s.heap.size])) := c2.trans (st3 _ (Steps.refl _))
  have c5 : Steps p.tables e below (s₁.setTop (entryFrame m #[.ref b, .int (Int32.ofNat o), .int (Int32.ofNat len)] 6)) (T3.setTop (mkF m 9 #[.val (.ref b), .val (.int (Int32.ofNat o)), .val (.int (Int32.ofNat len)), .val (.ref s.heap.size), .unset, .unset] [.int (Int32.ofNat len), .int 0, .ref s.heap.size, .int (Int32.ofNat o), .ref b])) := c4.trans (by
    refine XS.astoreN X3.here hexec rfl (hb hbytes d3) rfl rfl rfl ?_
    refine XS.aloadN X3.here hexec rfl (hb hbytes d4) rfl rfl ?_
    refine XS.iloadN X3.here hexec rfl (hb hbytes d5) rfl ?_
    refine XS.aloadN X3.here hexec rfl (hb hbytes d6) rfl rfl ?_
    refine iconstV X3.here hexec rfl 0 (hb hbytes d7) (by decide) ?_
    refine XS.iloadN X3.here hexec rfl (hb hbytes d8) rfl ?_
    exact Steps.refl _)
  obtain ⟨v6, T6, X6, E6, g6⟩ := X3.callS hexec (Cmp5.law l b A s.heap.size B3 o 0 len) hown (wks W (staticW U16 115 Cmp5.yN)) (wk W Cmp5.tab) (W := 0) (Nat.le_of_ble_eq_true rfl) (Nat.le_of_ble_eq_true rfl) (Nat.le_refl _) (by show 0 + len + 0 ≤ len; omega) (g := (mkF m 9 #[.val (.ref b), .val (.int (Int32.ofNat o)), .val (.int (Int32.ofNat len)), .val (.ref s.heap.size), .unset, .unset] [.int (Int32.ofNat len), .int (Int32.ofNat 0), .ref s.heap.size, .int (Int32.ofNat o), .ref b])) rfl (by rw [hml]; rfl) c5 (argsL := [.ref b, .int (Int32.ofNat o), .ref s.heap.size, .int (Int32.ofNat 0), .int (Int32.ofNat len)]) (rest := []) rfl rfl (by show 2 * 0 + 0 ≤ _; decide) (hb hbytes d9) (⟨rfl, hA3, ba3, hne, l1, by rw [bs3]; simp, hp⟩)
  obtain ⟨rfl, B6, p6, f6⟩ := E6
  have c7 : Steps p.tables e below (s₁.setTop (entryFrame m #[.ref b, .int (Int32.ofNat o), .int (Int32.ofNat len)] 6)) (T6.setTop (mkF m 12 #[.val (.ref b), .val (.int (Int32.ofNat o)), .val (.int (Int32.ofNat len)), .val (.ref s.heap.size), .unset, .unset] [.int (Int32.ofNat len)])) := g6
  have c8 : Steps p.tables e below (s₁.setTop (entryFrame m #[.ref b, .int (Int32.ofNat o), .int (Int32.ofNat len)] 6)) (T6.setTop (mkF m 58 #[.val (.ref b), .val (.int (Int32.ofNat o)), .val (.int (Int32.ofNat len)), .val (.ref s.heap.size), .val (.int (Int32.ofNat len)), .unset] [.ref s.heap.size])) := c7.trans (by
    refine XS.istore X6.here hexec rfl (hb hbytes d12) rfl rfl ?_
    refine XS.iload X6.here hexec rfl (hb hbytes d14) rfl ?_
    refine XS.iloadN X6.here hexec rfl (hb hbytes d16) rfl ?_
    refine XS.icmpYes X6.here hexec rfl (pc0 := 17) rfl (hb hbytes d17) rfl (ii_eq_t rfl) (by decide) rfl ?_
    refine XS.aloadN X6.here hexec rfl (hb hbytes d57) rfl rfl ?_
    exact Steps.refl _)
  have X8 := X6.wide (L' := []) (cells' := 1) (slots' := len) (fun x hx hlt => by
    simp only [List.nil_append, copyLocs, List.mem_map, List.mem_range] at hx
    obtain ⟨i, -, rfl⟩ := hx
    exact absurd hlt (Nat.lt_irrefl _)) (Nat.le_refl _) (by omega)
  exact ⟨T6, some (.ref s.heap.size), _, _, _, X8, rfl, rfl, rfl, (fun h => by cases h), ⟨⟨rfl, B6, ba3.like (X3.warmed.alike.symm.trans X6.warmed.alike) p6.1 f6.1 f6.2.1 f6.2.2.1, f6.2.1.trans bv3, by rw [X6.warmed.alike.findClass, f6.1]; exact bf3, by rw [f6.2.2.1, bs3]; simp, fun j hj => by rw [f6.2.2.2 j, if_pos (by omega)]; rfl, kp3.put p6 (Nat.le_refl _)⟩, by rw [p6.2.2, bh3, hh0]; simp⟩, fun fs hl => c8.trans (X8.areturnOut hexec rfl hret rfl (hb hbytes d58) hl)⟩
end Cmp3
namespace CodL
def yN : MethodName := ⟨"java/lang/StringUTF16", "coderFromArrayLen", "([BI)B"⟩
abbrev yB : ByteArray := jdk_52_method_15_code
theorem d0 : decode yB 0 = .ok (.iload_n 1, 1) := by decide +kernel
theorem d1 : decode yB 1 = .ok (.aload_n 0, 1) := by decide +kernel
theorem d2 : decode yB 2 = .ok (.arraylength, 1) := by decide +kernel
theorem d3 : decode yB 3 = .ok (.isub, 1) := by decide +kernel
theorem d4 : decode yB 4 = .ok (.bipush 31, 2) := by decide +kernel
theorem d6 : decode yB 6 = .ok (.iushr, 1) := by decide +kernel
theorem d7 : decode yB 7 = .ok (.i2b, 1) := by decide +kernel
theorem d8 : decode yB 8 = .ok (.ireturn, 1) := by decide +kernel
def site : List Cond := []
def tab : Cond := tabOf yN yB 2 (some .byte) site
def P (d : Addr) (B : Cell) (args : Array Value) (s : State) : Prop := args = #[.ref d, .int (Int32.ofNat B.slots.size)] ∧ Arr .byte d B s
def E (r : Option Value) (s u : State) : Prop := XT.PureE (some (.int 0)) r s u
/-- an array as long as the number of chars: LATIN1 -/
theorem law (l : Launch) (d : Addr) (B : Cell) : Law l yN 2 2 0 0 yB 2 (some .byte) site (P d B) E [] 0 0 := by
  refine Law.of_walk (plainFor_of_name (by decide +kernel)) (by decide +kernel) (by decide +kernel) (by decide) (fun _ _ h => by rw [h.1]; rfl) (fun _ U U' hal hh h => ⟨h.1, h.2.mv hal hh⟩) (fun r U U' V V' h1 hal h2 h => XT.PureE.mv r U U' V V' h1 hal h2 h) ?_
  intro p e s m args below meth c s₁ X0 hexec hbytes hml hret hlk hnm hown hh0 W hP
  obtain ⟨rfl, hB⟩ := hP
  have hB0 := hB.mv X0.warmed.alike hh0
  have c1 : Steps p.tables e below (s₁.setTop (entryFrame m #[.ref d, .int (Int32.ofNat B.slots.size)] 2)) (s₁.setTop (mkF m 0 #[.val (.ref d), .val (.int (Int32.ofNat B.slots.size))] [])) := entry rfl
  have c2 : Steps p.tables e below (s₁.setTop (entryFrame m #[.ref d, .int (Int32.ofNat B.slots.size)] 2)) (s₁.setTop (mkF m 2 #[.val (.ref d), .val (.int (Int32.ofNat B.slots.size))] [.ref d, .int (Int32.ofNat B.slots.size)])) := c1.trans (by
    refine XS.iloadN X0.here hexec rfl (hb hbytes d0) rfl ?_
    refine XS.aloadN X0.here hexec rfl (hb hbytes d1) rfl rfl ?_
    exact Steps.refl _)
  have c3 : Steps p.tables e below (s₁.setTop (entryFrame m #[.ref d, .int (Int32.ofNat B.slots.size)] 2)) (s₁.setTop (mkF m 8 #[.val (.ref d), .val (.int (Int32.ofNat B.slots.size))] [.int (lo8 (ushr (Int32.ofNat B.slots.size - Int32.ofNat B.slots.size) 31))])) := c2.trans (by
    refine X0.alen hexec hB0 rfl rfl (hb hbytes d2) ?_
    refine XS.isub X0.here hexec rfl (hb hbytes d3) rfl ?_
    refine bipushV X0.here hexec rfl 31 (hb hbytes d4) (by decide) ?_
    refine iushr X0.here hexec rfl (hb hbytes d6) rfl ?_
    refine i2b X0.here hexec rfl (hb hbytes d7) rfl ?_
    exact Steps.refl _)
  have e0 : lo8 (ushr (Int32.ofNat B.slots.size - Int32.ofNat B.slots.size) 31) = 0 := by rw [Int32.sub_self]; decide
  rw [e0] at c3
  exact ⟨s₁, some (.int 0), _, _, _, X0, rfl, rfl, rfl, (fun h => by cases h), ⟨rfl, hh0⟩, fun fs hl => c3.trans (X0.ireturnOut hexec hret rfl (Or.inr (Or.inr (Or.inl rfl))) (hb hbytes d8) hl)⟩
end CodL
/-- the String at a is Latin-1 over a new byte[] (the heap's one new cell): the low bytes of the len chars of A from o on; every cell but a is kept -/
def Got (a : Addr) (D : Cell) (fV fC : Field) (A : Cell) (o len : Nat) (r : Option Value) (s u : State) : Prop := r = none ∧ ∃ D' V : Cell, Blank "java/lang/String" a D' u ∧ Same D D' [fV.slot, fC.slot] ∧ D'.slots[fV.slot]? = some (.ref s.heap.size) ∧ D'.slots[fC.slot]? = some (.int 0) ∧ Arr .byte s.heap.size V u ∧ V.vm = .none ∧ u.vm.findClass "[B" = some V.cls ∧ V.slots.size = len ∧ (∀ j, j < len → V.slots[j]? = some (.int (lo8 (cv A (o + j))))) ∧ (∀ (y : Addr) (c : Cell), y ≠ a → s.heap[y]? = some c → u.heap[y]? = some c) ∧ u.heap.size = s.heap.size + 1
theorem Got.mv {a : Addr} {D A : Cell} {fV fC : Field} {o len : Nat} : ∀ r (U U' V V' : State), U'.heap = U.heap → V.vm.Alike V'.vm → V'.heap = V.heap → Got a D fV fC A o len r U V → Got a D fV fC A o len r U' V' :=
  fun r U U' V V' h1 hal h2 ⟨e0, D', X, a1, a2, a3, a4, a5, a6, a7, a8, a9, a10, a11⟩ => ⟨e0, D', X, a1.mv hal h2, a2, by rw [h1]; exact a3, a4, by rw [h1]; exact a5.mv hal h2, a6, by rw [hal.findClass]; exact a7, a8, a9, by rw [h1, h2]; exact a10, by rw [h1, h2]; exact a11⟩
namespace New4
def yN : MethodName := ⟨"java/lang/String", "<init>", "([CIILjava/lang/Void;)V"⟩
abbrev yB : ByteArray := jdk_42_method_149_code
theorem d0 : decode yB 0 = .ok (.aload_n 0, 1) := by decide +kernel
theorem d1 : decode yB 1 = .ok (.invokespecial 1, 3) := by decide +kernel
theorem d4 : decode yB 4 = .ok (.iload_n 3, 1) := by decide +kernel
theorem d5 : decode yB 5 = .ok (.ifCond (.ne) 22, 3) := by decide +kernel
theorem d27 : decode yB 27 = .ok (.getstatic 38, 3) := by decide +kernel
theorem d30 : decode yB 30 = .ok (.ifCond (.eq) 28, 3) := by decide +kernel
theorem d33 : decode yB 33 = .ok (.aload_n 1, 1) := by decide +kernel
theorem d34 : decode yB 34 = .ok (.iload_n 2, 1) := by decide +kernel
theorem d35 : decode yB 35 = .ok (.iload_n 3, 1) := by decide +kernel
theorem d36 : decode yB 36 = .ok (.invokestatic 177, 3) := by decide +kernel
theorem d39 : decode yB 39 = .ok (.astore 5, 2) := by decide +kernel
theorem d41 : decode yB 41 = .ok (.aload_n 0, 1) := by decide +kernel
theorem d42 : decode yB 42 = .ok (.aload 5, 2) := by decide +kernel
theorem d44 : decode yB 44 = .ok (.iload_n 3, 1) := by decide +kernel
theorem d45 : decode yB 45 = .ok (.invokestatic 47, 3) := by decide +kernel
theorem d48 : decode yB 48 = .ok (.putfield 15, 3) := by decide +kernel
theorem d51 : decode yB 51 = .ok (.aload_n 0, 1) := by decide +kernel
theorem d52 : decode yB 52 = .ok (.aload 5, 2) := by decide +kernel
theorem d54 : decode yB 54 = .ok (.putfield 9, 3) := by decide +kernel
theorem d57 : decode yB 57 = .ok (.return_, 1) := by decide +kernel
def site : List Cond := [.fieldLink "java/lang/String" 38 "java/lang/String" "COMPACT_STRINGS" "Z", Cmp3.tab, CodL.tab, .laysFinal "java/lang/String" "java/lang/String" "value" "[B", .fieldLink "java/lang/String" 9 "java/lang/String" "value" "[B", .laysFinal "java/lang/String" "java/lang/String" "coder" "B", .fieldLink "java/lang/String" 15 "java/lang/String" "coder" "B"] ++ objW "java/lang/String" 1 ++ staticW "java/lang/String" 177 Cmp3.yN ++ staticW "java/lang/String" 47 CodL.yN
def tab : Cond := tabOf yN yB 6 none site
def P (a : Addr) (D : Cell) (fV fC : Field) (b : Addr) (A : Cell) (z : Int32) (o len : Nat) (args : Array Value) (s : State) : Prop := args = #[.ref a, .ref b, .int (Int32.ofNat o), .int (Int32.ofNat len), .null] ∧ Blank "java/lang/String" a D s ∧ Found "java/lang/String" "value" "[B" fV s ∧ Found "java/lang/String" "coder" "B" fC s ∧ Ch b A s ∧ StaticIs s "java/lang/String" "COMPACT_STRINGS" "Z" (.int z) ∧ ¬ z = 0 ∧ 0 < len ∧ o + len ≤ A.slots.size ∧ len ≤ 536870912 ∧ ∀ i, i < len → ¬ 255 < cv A (o + i)
def E (a : Addr) (D : Cell) (fV fC : Field) (A : Cell) (o len : Nat) (r : Option Value) (s u : State) : Prop := Got a D fV fC A o len r s u
/-- len > 0, no char of the range above 255: a Latin-1 String of their low bytes -/
theorem law (l : Launch) (a : Addr) (D : Cell) (fV fC : Field) (b : Addr) (A : Cell) (z : Int32) (o len : Nat) : Law l yN 5 4 2 35 yB 6 none site (P a D fV fC b A z o len) (E a D fV fC A o len) [⟨a, fC.slot⟩, ⟨a, fV.slot⟩] 1 len := by
  refine Law.of_walk (plainFor_of_name (by decide +kernel)) (by decide +kernel) (by decide +kernel) (by decide) (fun _ _ h => by rw [h.1]; rfl) (fun _ U U' hal hh h => ⟨h.1, h.2.1.mv hal hh, h.2.2.1.al hal, h.2.2.2.1.al hal, h.2.2.2.2.1.mv hal hh, h.2.2.2.2.2.1.there hal hh, h.2.2.2.2.2.2⟩) (fun r U U' V V' h1 hal h2 h => Got.mv r U U' V V' h1 hal h2 h) ?_
  intro p e s m args below meth c s₁ X0 hexec hbytes hml hret hlk hnm hown hh0 W hP
  obtain ⟨rfl, hB, f1, f2, hA, s1, hz, l0, l1, l2, hp⟩ := hP
  have a31 := hA.1.2.2.2
  have c1 : Steps p.tables e below (s₁.setTop (entryFrame m #[.ref a, .ref b, .int (Int32.ofNat o), .int (Int32.ofNat len), .null] 6)) (s₁.setTop (mkF m 0 #[.val (.ref a), .val (.ref b), .val (.int (Int32.ofNat o)), .val (.int (Int32.ofNat len)), .val .null, .unset] [])) := entry rfl
  have c2 : Steps p.tables e below (s₁.setTop (entryFrame m #[.ref a, .ref b, .int (Int32.ofNat o), .int (Int32.ofNat len), .null] 6)) (s₁.setTop (mkF m 1 #[.val (.ref a), .val (.ref b), .val (.int (Int32.ofNat o)), .val (.int (Int32.ofNat len)), .val .null, .unset] [.ref a])) := c1.trans (by
    refine XS.aloadN X0.here hexec rfl (hb hbytes d0) rfl rfl ?_
    exact Steps.refl _)
  obtain ⟨T3, X3, q3, st3⟩ := X0.oinit hexec hown (wks W (objW "java/lang/String" 1)) (g := (mkF m 1 #[.val (.ref a), .val (.ref b), .val (.int (Int32.ofNat o)), .val (.int (Int32.ofNat len)), .val .null, .unset] [.ref a])) rfl (by rw [hml]; rfl) (rest := []) rfl (hb hbytes d1) (W := 0) (by show 2 * 0 + 0 ≤ _; decide) (Nat.le_of_ble_eq_true rfl) (Nat.le_of_ble_eq_true rfl)
  have hh3 := q3.trans hh0
  have c4 : Steps p.tables e below (s₁.setTop (entryFrame m #[.ref a, .ref b, .int (Int32.ofNat o), .int (Int32.ofNat len), .null] 6)) (T3.setTop (mkF m 27 #[.val (.ref a), .val (.ref b), .val (.int (Int32.ofNat o)), .val (.int (Int32.ofNat len)), .val .null, .unset] [])) := (c2.trans (st3 _ (Steps.refl _))).trans (by
    refine XS.iloadN X3.here hexec rfl (hb hbytes d4) rfl ?_
    refine XS.ifYes X3.here hexec rfl (pc0 := 5) rfl (hb hbytes d5) rfl (i0_ne_t (nz32 (by omega) l0)) (by decide) rfl ?_
    exact Steps.refl _)
  obtain ⟨T5, X5, q5, st5⟩ := X3.sget hexec hown (wk W (.fieldLink "java/lang/String" 38 "java/lang/String" "COMPACT_STRINGS" "Z")) s1 (fun _ _ h => by rw [hh3]; exact h) (g := (mkF m 27 #[.val (.ref a), .val (.ref b), .val (.int (Int32.ofNat o)), .val (.int (Int32.ofNat len)), .val .null, .unset] [])) rfl (hb hbytes d27)
  have hh5 := q5.trans hh3
  have c6 : Steps p.tables e below (s₁.setTop (entryFrame m #[.ref a, .ref b, .int (Int32.ofNat o), .int (Int32.ofNat len), .null] 6)) (T5.setTop (mkF m 30 #[.val (.ref a), .val (.ref b), .val (.int (Int32.ofNat o)), .val (.int (Int32.ofNat len)), .val .null, .unset] [.int z])) := c4.trans (st5 _ (Steps.refl _))
  have c7 : Steps p.tables e below (s₁.setTop (entryFrame m #[.ref a, .ref b, .int (Int32.ofNat o), .int (Int32.ofNat len), .null] 6)) (T5.setTop (mkF m 36 #[.val (.ref a), .val (.ref b), .val (.int (Int32.ofNat o)), .val (.int (Int32.ofNat len)), .val .null, .unset] [.int (Int32.ofNat len), .int (Int32.ofNat o), .ref b])) := c6.trans (by
    refine XS.ifNo X5.here hexec rfl (hb hbytes d30) rfl (i0_eq_f hz) ?_
    refine XS.aloadN X5.here hexec rfl (hb hbytes d33) rfl rfl ?_
    refine XS.iloadN X5.here hexec rfl (hb hbytes d34) rfl ?_
    refine XS.iloadN X5.here hexec rfl (hb hbytes d35) rfl ?_
    exact Steps.refl _)
  obtain ⟨v8, T8, X8, E8, g8⟩ := X5.callS hexec (Cmp3.law l b A o len) hown (wks W (staticW "java/lang/String" 177 Cmp3.yN)) (wk W Cmp3.tab) (W := 0) (Nat.le_of_ble_eq_true rfl) (Nat.le_of_ble_eq_true rfl) (Nat.le_refl _) (by show 0 + len ≤ len; omega) (g := (mkF m 36 #[.val (.ref a), .val (.ref b), .val (.int (Int32.ofNat o)), .val (.int (Int32.ofNat len)), .val .null, .unset] [.int (Int32.ofNat len), .int (Int32.ofNat o), .ref b])) rfl (by rw [hml]; rfl) c7 (argsL := [.ref b, .int (Int32.ofNat o), .int (Int32.ofNat len)]) (rest := []) rfl rfl (by show 2 * 0 + 0 ≤ _; decide) (hb hbytes d36) (⟨rfl, hA.mv X5.warmed.alike hh5, l1, l2, hp⟩)
  obtain ⟨e8, z8⟩ := E8
  obtain ⟨rfl, N, n1, n2, n3, n4, n5, n6⟩ := NewArr.mv _ T5 s _ _ hh5.symm (Vm.Alike.refl _) rfl e8
  rw [hh5] at z8
  have hB1 := hB.keep X8.warmed.alike (n6 _ _ hB.1)
  have hne : s.heap.size ≠ a := (Nat.ne_of_lt (Array.getElem?_eq_some_iff.mp hB.1).1).symm
  have c9 : Steps p.tables e below (s₁.setTop (entryFrame m #[.ref a, .ref b, .int (Int32.ofNat o), .int (Int32.ofNat len), .null] 6)) (T8.setTop (mkF m 39 #[.val (.ref a), .val (.ref b), .val (.int (Int32.ofNat o)), .val (.int (Int32.ofNat len)), .val .null, .unset] [.ref s.heap.size])) := g8
  have c10 : Steps p.tables e below (s₁.setTop (entryFrame m #[.ref a, .ref b, .int (Int32.ofNat o), .int (Int32.ofNat len), .null] 6)) (T8.setTop (mkF m 45 #[.val (.ref a), .val (.ref b), .val (.int (Int32.ofNat o)), .val (.int (Int32.ofNat len)), .val .null, .val (.ref s.heap.size)] [.int (Int32.ofNat N.slots.size), .ref s.heap.size, .ref a])) := by
    have hc : Steps p.tables e below (s₁.setTop (entryFrame m #[.ref a, .ref b, .int (Int32.ofNat o), .int (Int32.ofNat len), .null] 6)) (T8.setTop (mkF m 45 #[.val (.ref a), .val (.ref b), .val (.int (Int32.ofNat o)), .val (.int (Int32.ofNat len)), .val .null, .val (.ref s.heap.size)] [.int (Int32.ofNat len), .ref s.heap.size, .ref a])) := c9.trans (by
      refine XS.astore X8.here hexec rfl (hb hbytes d39) rfl rfl rfl ?_
      refine XS.aloadN X8.here hexec rfl (hb hbytes d41) rfl rfl ?_
      refine XS.aload X8.here hexec rfl (hb hbytes d42) rfl rfl ?_
      refine XS.iloadN X8.here hexec rfl (hb hbytes d44) rfl ?_
      exact Steps.refl _)
    rw [n4]; exact hc
  obtain ⟨v11, T11, X11, E11, g11⟩ := X8.callS hexec (CodL.law l s.heap.size N) hown (wks W (staticW "java/lang/String" 47 CodL.yN)) (wk W CodL.tab) (W := 1) (Nat.le_of_ble_eq_true rfl) (Nat.le_of_ble_eq_true rfl) (Nat.le_refl _) (by show 0 + len + 0 ≤ len; omega) (g := (mkF m 45 #[.val (.ref a), .val (.ref b), .val (.int (Int32.ofNat o)), .val (.int (Int32.ofNat len)), .val .null, .val (.ref s.heap.size)] [.int (Int32.ofNat N.slots.size), .ref s.heap.size, .ref a])) rfl (by rw [hml]; rfl) c10 (argsL := [.ref s.heap.size, .int (Int32.ofNat N.slots.size)]) (rest := [.ref a]) rfl rfl (by show 2 * 0 + (1 + 0) ≤ _; decide) (hb hbytes d45) (⟨rfl, n1⟩)
  obtain ⟨rfl, q11⟩ := E11
  have hB11 := hB1.mv (X8.warmed.alike.symm.trans X11.warmed.alike) q11
  have c12 : Steps p.tables e below (s₁.setTop (entryFrame m #[.ref a, .ref b, .int (Int32.ofNat o), .int (Int32.ofNat len), .null] 6)) (T11.setTop (mkF m 48 #[.val (.ref a), .val (.ref b), .val (.int (Int32.ofNat o)), .val (.int (Int32.ofNat len)), .val .null, .val (.ref s.heap.size)] [.int 0, .ref a])) := g11
  obtain ⟨T13, X13, p13, bl13, sl13, st13⟩ := X11.finit hexec hown (wk W (.fieldLink "java/lang/String" 15 "java/lang/String" "coder" "B")) (Or.inr ⟨_, (wk W (.laysFinal "java/lang/String" "java/lang/String" "coder" "B"))⟩) (Or.inl ⟨rfl, hnm⟩) f2 (Or.inl rfl) hB11 (t := .byte) (by decide +kernel) rfl (g := (mkF m 48 #[.val (.ref a), .val (.ref b), .val (.int (Int32.ofNat o)), .val (.int (Int32.ofNat len)), .val .null, .val (.ref s.heap.size)] [.int 0, .ref a])) rfl (rest := []) rfl (hb hbytes d48)
  have c14 : Steps p.tables e below (s₁.setTop (entryFrame m #[.ref a, .ref b, .int (Int32.ofNat o), .int (Int32.ofNat len), .null] 6)) (T13.setTop (mkF m 54 #[.val (.ref a), .val (.ref b), .val (.int (Int32.ofNat o)), .val (.int (Int32.ofNat len)), .val .null, .val (.ref s.heap.size)] [.ref s.heap.size, .ref a])) := (c12.trans (st13 _ (Steps.refl _))).trans (by
    refine XS.aloadN X13.here hexec rfl (hb hbytes d51) rfl rfl ?_
    refine XS.aload X13.here hexec rfl (hb hbytes d52) rfl rfl ?_
    exact Steps.refl _)
  obtain ⟨T15, X15, p15, bl15, sl15, st15⟩ := X13.finit hexec hown (wk W (.fieldLink "java/lang/String" 9 "java/lang/String" "value" "[B")) (Or.inr ⟨_, (wk W (.laysFinal "java/lang/String" "java/lang/String" "value" "[B"))⟩) (Or.inl ⟨rfl, hnm⟩) f1 (Or.inl rfl) bl13 (t := (.array .byte)) (by decide +kernel) rfl (g := (mkF m 54 #[.val (.ref a), .val (.ref b), .val (.int (Int32.ofNat o)), .val (.int (Int32.ofNat len)), .val .null, .val (.ref s.heap.size)] [.ref s.heap.size, .ref a])) rfl (rest := []) rfl (hb hbytes d54)
  have c16 : Steps p.tables e below (s₁.setTop (entryFrame m #[.ref a, .ref b, .int (Int32.ofNat o), .int (Int32.ofNat len), .null] 6)) (T15.setTop (mkF m 57 #[.val (.ref a), .val (.ref b), .val (.int (Int32.ofNat o)), .val (.int (Int32.ofNat len)), .val .null, .val (.ref s.heap.size)] [])) := c14.trans (st15 _ (Steps.refl _))
  have ap := apart (Or.inr ⟨_, (wk W (.laysFinal "java/lang/String" "java/lang/String" "value" "[B"))⟩) (Or.inr ⟨_, (wk W (.laysFinal "java/lang/String" "java/lang/String" "coder" "B"))⟩) f1 f2 (t₁ := .array .byte) (t₂ := .byte) (by decide +kernel) (by decide +kernel) (by decide)
  have al := X8.warmed.alike.symm.trans X15.warmed.alike
  have n7 : T11.heap[s.heap.size]? = some N := by rw [q11]; exact n1.1
  exact ⟨T15, none, _, _, _, X15, by simp, rfl, by omega, (fun _ => rfl), ⟨rfl, _, N, bl15, ((Same.refl D _).set _ (by simp)).set _ (by simp), sl15, (Cell.slots_setSlot_ne _ ap).trans sl13, n1.keep al (p15.other hne (p13.other hne n7)), n2, by rw [al.findClass]; exact n3, n4, n5, fun y c h1 h2 => p15.other h1 (p13.other h1 (by rw [q11]; exact n6 y c h2)), by rw [p15.2.2, p13.2.2, q11]; exact z8⟩, fun fs hl => c16.trans (X15.returnOut hexec hret (hb hbytes d57) hl)⟩
end New4
namespace New1
def yN : MethodName := ⟨"java/lang/String", "<init>", "([C)V"⟩
abbrev yB : ByteArray := jdk_42_method_3_code
theorem d0 : decode yB 0 = .ok (.aload_n 0, 1) := by decide +kernel
theorem d1 : decode yB 1 = .ok (.aload_n 1, 1) := by decide +kernel
theorem d2 : decode yB 2 = .ok (.iconst 0, 1) := by decide +kernel
theorem d3 : decode yB 3 = .ok (.aload_n 1, 1) := by decide +kernel
theorem d4 : decode yB 4 = .ok (.arraylength, 1) := by decide +kernel
theorem d5 : decode yB 5 = .ok (.aconst_null, 1) := by decide +kernel
theorem d6 : decode yB 6 = .ok (.invokespecial 27, 3) := by decide +kernel
theorem d9 : decode yB 9 = .ok (.return_, 1) := by decide +kernel
def site : List Cond := [New4.tab] ++ initW "java/lang/String" 27 New4.yN
def tab : Cond := tabOf yN yB 2 none site
def P (a : Addr) (D : Cell) (fV fC : Field) (b : Addr) (A : Cell) (z : Int32) (args : Array Value) (s : State) : Prop := args = #[.ref a, .ref b] ∧ Blank "java/lang/String" a D s ∧ Found "java/lang/String" "value" "[B" fV s ∧ Found "java/lang/String" "coder" "B" fC s ∧ Ch b A s ∧ StaticIs s "java/lang/String" "COMPACT_STRINGS" "Z" (.int z) ∧ ¬ z = 0 ∧ 0 < A.slots.size ∧ A.slots.size ≤ 536870912 ∧ ∀ i, i < A.slots.size → ¬ 255 < cv A i
def E (a : Addr) (D : Cell) (fV fC : Field) (A : Cell) (r : Option Value) (s u : State) : Prop := Got a D fV fC A 0 A.slots.size r s u
/-- new String(chars), not empty, no char above 255: a Latin-1 String of their low bytes -/
theorem law (l : Launch) (a : Addr) (D : Cell) (fV fC : Field) (b : Addr) (A : Cell) (z : Int32) : Law l yN 2 1 3 52 yB 2 none site (P a D fV fC b A z) (E a D fV fC A) [⟨a, fC.slot⟩, ⟨a, fV.slot⟩] 1 A.slots.size := by
  refine Law.of_walk (plainFor_of_name (by decide +kernel)) (by decide +kernel) (by decide +kernel) (by decide) (fun _ _ h => by rw [h.1]; rfl) (fun _ U U' hal hh h => ⟨h.1, h.2.1.mv hal hh, h.2.2.1.al hal, h.2.2.2.1.al hal, h.2.2.2.2.1.mv hal hh, h.2.2.2.2.2.1.there hal hh, h.2.2.2.2.2.2⟩) (fun r U U' V V' h1 hal h2 h => Got.mv r U U' V V' h1 hal h2 h) ?_
  intro p e s m args below meth c s₁ X0 hexec hbytes hml hret hlk hnm hown hh0 W hP
  obtain ⟨rfl, hB, f1, f2, hA, s1, hz, l0, l2, hp⟩ := hP
  have c1 : Steps p.tables e below (s₁.setTop (entryFrame m #[.ref a, .ref b] 2)) (s₁.setTop (mkF m 0 #[.val (.ref a), .val (.ref b)] [])) := entry rfl
  have c2 : Steps p.tables e below (s₁.setTop (entryFrame m #[.ref a, .ref b] 2)) (s₁.setTop (mkF m 6 #[.val (.ref a), .val (.ref b)] [.null, .int (Int32.ofNat A.slots.size), .int 0, .ref b, .ref a])) := c1.trans (by
    refine XS.aloadN X0.here hexec rfl (hb hbytes d0) rfl rfl ?_
    refine XS.aloadN X0.here hexec rfl (hb hbytes d1) rfl rfl ?_
    refine iconstV X0.here hexec rfl 0 (hb hbytes d2) (by decide) ?_
    refine XS.aloadN X0.here hexec rfl (hb hbytes d3) rfl rfl ?_
    refine X0.alen hexec (hA.1.mv X0.warmed.alike hh0) rfl rfl (hb hbytes d4) ?_
    refine XS.aconstNull X0.here hexec rfl (hb hbytes d5) ?_
    exact Steps.refl _)
  obtain ⟨v3, T3, X3, E3, g3⟩ := X0.callN hexec (New4.law l a D fV fC b A z 0 A.slots.size) rfl hown (wks W (initW "java/lang/String" 27 New4.yN)) (W New4.tab (by simp only [site, List.mem_cons, List.mem_append, true_or, or_true])) (W := 0) (Nat.le_of_ble_eq_true rfl) (Nat.le_of_ble_eq_true rfl) (Nat.le_refl _) (by show 0 + A.slots.size ≤ A.slots.size; omega) (g := (mkF m 6 #[.val (.ref a), .val (.ref b)] [.null, .int (Int32.ofNat A.slots.size), .int (Int32.ofNat 0), .ref b, .ref a])) rfl (by rw [hml]; rfl) c2 (argsL := [.ref b, .int (Int32.ofNat 0), .int (Int32.ofNat A.slots.size), .null]) (rest := []) rfl rfl (by show 2 * 0 + 0 ≤ _; decide) (hb hbytes d6) (⟨rfl, hB.mv X0.warmed.alike hh0, f1.al X0.warmed.alike, f2.al X0.warmed.alike, hA.mv X0.warmed.alike hh0, s1.there X0.warmed.alike hh0, hz, l0, by omega, l2, fun i hi => by rw [Nat.zero_add]; exact hp i hi⟩)
  have e0 := Got.mv _ s₁ s _ _ hh0.symm (Vm.Alike.refl _) rfl E3
  obtain rfl := e0.1
  have c4 : Steps p.tables e below (s₁.setTop (entryFrame m #[.ref a, .ref b] 2)) (T3.setTop (mkF m 9 #[.val (.ref a), .val (.ref b)] [])) := g3
  exact ⟨T3, none, _, _, _, X3, by simp, rfl, by omega, (fun _ => rfl), e0, fun fs hl => c4.trans (X3.returnOut hexec hret (hb hbytes d9) hl)⟩
theorem pays {l : Launch} {R : Room} {p : Program} {e : Env} {below : List Frame} {s : State} {sargs : Array Value} {len W : Nat} (a : Addr) (D : Cell) (fV fC : Field) (b : Addr) (A : Cell) (z : Int32) (htab : tab.before sargs s = true) (hfr : 4 ≤ R.frames) (hlo : W + 65 ≤ R.locals) :
    Back l R p e below s sargs yN len W (fun A₁ a₁ => A₁.cells + 1 ≤ R.cells ∧ A₁.slots + A.slots.size ≤ R.slots ∧ P a D fV fC b A z a₁ A₁.U) (fun A₁ _ v₁ B₁ => E a D fV fC A v₁ A₁.U B₁.U ∧ B₁.locs = A₁.locs ++ [⟨a, fC.slot⟩, ⟨a, fV.slot⟩] ∧ B₁.cells = A₁.cells + 1 ∧ B₁.slots = A₁.slots + A.slots.size) :=
  (law l a D fV fC b A z).pays htab hfr (by omega)
end New1
end StrChars
namespace StrChars.Road
open Jvm Sem ClassFile Op Lib Jvm.Stand Jvm.Free Jvm.Free.XT
open Jvm.Lib.Cold (StaticIs)
abbrev ST : String := "java/lang/String"
/-- every table word that New1's law asks, flat -/
abbrev words : List Jvm.Cond := [.code New1.yN New1.yB 2 none, .initialized ST, .methodLink ST 27 New4.yN, .instanceMethod New4.yN,
  .code New4.yN New4.yB 6 none, .fieldLink ST 38 ST "COMPACT_STRINGS" "Z", .laysFinal ST ST "value" "[B", .fieldLink ST 9 ST "value" "[B", .laysFinal ST ST "coder" "B", .fieldLink ST 15 ST "coder" "B",
  .methodLink ST 1 Lib.objectInit, .instanceMethod Lib.objectInit, .code Lib.objectInit ⟨#[0xb1]⟩ 1 none, .methodLink ST 177 Cmp3.yN, .static Cmp3.yN, .methodLink ST 47 CodL.yN, .static CodL.yN,
  .code Cmp3.yN Cmp3.yB 6 (some (.array .byte)), .initialized U16, .arrayClass .byte, .methodLink U16 115 Cmp5.yN, .static Cmp5.yN, .code Cmp5.yN Cmp5.yB 7 (some .int), .code CodL.yN CodL.yB 2 (some .byte)]
theorem tab_of {a : Array Value} {s : State} (h : ∀ w ∈ words, w.before a s = true) : New1.tab.before a s = true := by
  have h5 : Cmp5.tab.before a s = true := unparts (wk h (.code Cmp5.yN Cmp5.yB 7 (some .int))) (wks h (.initialized Cmp5.yN.cls :: Cmp5.site))
  have hc : CodL.tab.before a s = true := unparts (wk h (.code CodL.yN CodL.yB 2 (some .byte))) (wks h (.initialized CodL.yN.cls :: CodL.site))
  have q5 : ∀ w ∈ Cmp5.tab :: words, w.before a s = true := fun w hw => (List.mem_cons.mp hw).elim (fun e => e ▸ h5) (h w)
  have h3 : Cmp3.tab.before a s = true := unparts (wk q5 (.code Cmp3.yN Cmp3.yB 6 (some (.array .byte)))) (wks q5 (.initialized Cmp3.yN.cls :: Cmp3.site))
  have q3 : ∀ w ∈ Cmp3.tab :: CodL.tab :: words, w.before a s = true := fun w hw => (List.mem_cons.mp hw).elim (fun e => e ▸ h3) fun hw => (List.mem_cons.mp hw).elim (fun e => e ▸ hc) (h w)
  have h4 : New4.tab.before a s = true := unparts (wk q3 (.code New4.yN New4.yB 6 none)) (wks q3 (.initialized New4.yN.cls :: New4.site))
  have q4 : ∀ w ∈ New4.tab :: words, w.before a s = true := fun w hw => (List.mem_cons.mp hw).elim (fun e => e ▸ h4) (h w)
  exact unparts (wk q4 (.code New1.yN New1.yB 2 none)) (wks q4 (.initialized New1.yN.cls :: New1.site))
/-- the words ride from the start Z to the walk's own state -/
theorem moved {Z s : State} {a0 args : Array Value} (hZ : Z.Warmed39 s.vm) (hw : ∀ d ∈ words, d.before a0 Z = true) : ∀ d ∈ words, d.before args s = true := fun d hd => by
  have q := hw d hd
  have t : ∀ d ∈ words, d = .arrayClass .byte ∨ (d.onTables && d.keepsFace) = true := by decide +kernel
  rcases t d hd with rfl | t
  · exact RoadKit.mvA hZ q
  · exact RoadKit.mv hZ q t
/-- WHAT COMES BACK, over the tables of the start Z: h the heap at the call, h' behind it -/
def Q (Z : State) (x : Addr) (A : Cell) (h : Heap) (v : Option Value) (h' : Heap) (L : List Loc) : Prop := v = none ∧ (∀ y ∈ L, y.base = x) ∧ RoadKit.Keep h h' [x] ∧ h'.size = h.size + 1 ∧ RoadKit.Exa Z h' x ST ∧ RoadKit.Fld Z h' x ST "value" "[B" (.ref h.size) ∧ RoadKit.Fld Z h' x ST "coder" "B" (.int 0) ∧
  (∃ V : Cell, RoadKit.Arr Z h' h.size V .byte ∧ V.vm = .none ∧ Z.vm.findClass "[B" = some V.cls ∧ V.slots.size = A.slots.size ∧ ∀ j, j < A.slots.size → V.slots[j]? = some (.int (lo8 (cv A j)))) ∧
  ∀ (O n d : String) (w : Value), RoadKit.Fld Z h x O n d w → RoadKit.slotOf Z O n d ≠ RoadKit.slotOf Z ST "value" "[B" → RoadKit.slotOf Z O n d ≠ RoadKit.slotOf Z ST "coder" "B" → RoadKit.Fld Z h' x O n d w
/-- **new String(chars) AT A CALL, IN THE ROAD'S FORM**: for specialBack behind newO: x the fresh String, b the char[] with the cell A -/
theorem back {p : Program} {l : Launch} {e : Env} {R : Room} {s : State} {args : Array Value} {below : List Frame} {len W : Nat} {Z : State} {a0 : Array Value} {h : Heap} (hZ : Z.Warmed39 s.vm) (hw : ∀ d ∈ words, d.before a0 Z = true) {kI : Nat} (wi : (Jvm.Cond.instantiable ST kI).before a0 Z = true)
    {x b : Addr} {A : Cell} {z : Int32} {v0 c0 : Value} (E : RoadKit.Exa Z h x ST) (V : RoadKit.Fld Z h x ST "value" "[B" v0) (C : RoadKit.Fld Z h x ST "coder" "B" c0) (K : RoadKit.Arr Z h b A .char) (hty : Typed .char A) (S : RoadKit.Sta Z h ST "COMPACT_STRINGS" "Z" (.int z)) (hz : ¬ z = 0)
    (l0 : 0 < A.slots.size) (l2 : A.slots.size ≤ 536870912) (hp : ∀ i, i < A.slots.size → ¬ 255 < cv A i) (hfr : 4 ≤ R.frames) (hlo : W + 65 ≤ R.locals) :
    Back l R p e below s args New1.yN len W (fun P a => a = #[.ref x, .ref b] ∧ P.U.heap = h ∧ P.cells + 1 ≤ R.cells ∧ P.slots + A.slots.size ≤ R.slots)
      (fun P _ v B => ∃ L, Q Z x A h v B.U.heap L ∧ B.locs = P.locs ++ L ∧ B.cells = P.cells + 1 ∧ B.slots = P.slots + A.slots.size) := by
  intro m meth c P g ig mk a X hg hsize hdg hW hn hp'
  obtain ⟨rfl, rfl, r1, r2⟩ := hp'
  have al : Z.vm.Alike P.U.vm := hZ.alike.trans X.warmed.alike
  obtain ⟨D, cfV, kV, iV, fV, hD, gV, stV, knV, obV, asV, slV⟩ := id V
  obtain ⟨D', cfC, kC, iC, fC, hD', gC, stC, -, -, asC, slC⟩ := id C
  cases hD.symm.trans hD'
  obtain ⟨D2, kD, e1, e2, e3, e4, e5⟩ := id E
  cases hD.symm.trans e1
  obtain ⟨c2, k2, i1, i2, i3, -⟩ := Cond.instantiable_spec wi
  cases e2.symm.trans i1
  cases e3.symm.trans i2
  obtain ⟨kU, u1, u2⟩ := al.2.2 _ _ e3
  have hB : Blank ST x D P.U := ⟨hD, ⟨knV, fun q hq => by rw [hq] at obV; cases obV⟩, by rw [al.findClass]; exact e2, kU, u1, by rw [u2]; exact i3, by rw [u2]; exact e5 i3⟩
  have F1 : Found ST "value" "[B" fV P.U := ⟨SBG.found_only al ⟨cfV, kV, iV, gV⟩, stV⟩
  have F2 : Found ST "coder" "B" fC P.U := ⟨SBG.found_only al ⟨cfC, kC, iC, gC⟩, stC⟩
  have hA : Ch b A P.U := ⟨⟨K.1, State.isArrayOf_alike al K.2.1, K.2.2, by omega⟩, hty⟩
  have hS : StaticIs P.U ST "COMPACT_STRINGS" "Z" (.int z) := by
    obtain ⟨cfS, iS, kS, fS, st, cS, t1, t2, t3, t4, t5, t6, t7⟩ := S
    exact StaticIs.there (s := { Z with heap := P.U.heap }) ⟨cfS, iS, kS, fS, st, cS, t1, t2, t3, t4, t5, (fun q => by rw [q] at t6; cases t6), t7⟩ al rfl
  obtain ⟨v, B, X', ⟨⟨hv, E', V', q1, q2, q3, q4, q5, q6, q7, q8, q9, q10, q11⟩, hl, hc, hs⟩, st⟩ := New1.pays x D fV fC b A z (tab_of (moved hZ hw)) hfr hlo m meth c P g ig mk _ X hg hsize hdg hW hn ⟨r1, r2, rfl, hB, F1, F2, hA, hS, hz, l0, l2, hp⟩
  have al' : Z.vm.Alike B.U.vm := hZ.alike.trans X'.warmed.alike
  have hsz : E'.slots.size = D.slots.size := by
    obtain ⟨-, -, -, kB, w1, w2, w3⟩ := q1
    obtain ⟨kB', y1, y2⟩ := al'.2.2 _ _ e3
    rw [q2.2.1] at w1
    cases w1.symm.trans y1
    rw [w3, e5 i3, y2]
  refine ⟨v, B, X', ⟨_, ⟨hv, ?_, ⟨by omega, fun y cy hy hn' => q10 y cy (by simpa using hn') hy, fun y cy hy => ?_⟩, q11, ⟨E', _, q1.1, by rw [q2.2.1]; exact e2, by rw [q2.2.1]; exact e3, by rw [q2.1]; exact obV, fun _ => by rw [hsz]; exact e5 i3⟩,
    ⟨E', cfV, kV, iV, fV, q1.1, gV, stV, by rw [q2.1]; exact knV, by rw [q2.1]; exact obV, by rw [q2.2.1]; exact asV, q3⟩, ⟨E', cfC, kC, iC, fC, q1.1, gC, stC, by rw [q2.1]; exact knV, by rw [q2.1]; exact obV, by rw [q2.2.1]; exact asC, q4⟩,
    ⟨V', ⟨q5.1, State.isArrayOf_alike al'.symm q5.2.1, q5.2.2.1⟩, q6, by rw [← al'.findClass]; exact q7, q8, fun j hj => by have := q9 j hj; rwa [Nat.zero_add] at this⟩, fun O n d w F n1 n2 => ?_⟩, hl, hc, hs⟩, st⟩
  · intro y hy
    simp only [List.mem_cons, List.not_mem_nil, or_false] at hy
    rcases hy with rfl | rfl <;> rfl
  · by_cases q : y = x
    · subst q
      cases hD.symm.trans hy
      exact ⟨E', q1.1, q2.2.1, q2.1, hsz⟩
    · exact ⟨cy, q10 y cy q hy, rfl, rfl, rfl⟩
  · obtain ⟨D3, cf, k, i, f, g1, g2, g3, g4, g5, g6, g7⟩ := F
    cases hD.symm.trans g1
    simp only [RoadKit.slotOf, g2, gV, gC, Option.map_some, Option.getD_some] at n1 n2
    exact ⟨E', cf, k, i, f, q1.1, g2, g3, by rw [q2.1]; exact g4, by rw [q2.1]; exact g5, by rw [q2.2.1]; exact g6, by rw [q2.2.2 f.slot (by simp [n1, n2])]; exact g7⟩
end StrChars.Road
namespace StrChars.Road
open Jvm Sem ClassFile Op Lib Jvm.Stand Jvm.Free Jvm.Free.XT
/-- WHAT COMES BACK, the byte[] as a list of values -/
def QA (Z : State) (x : Addr) (zn : Int32) (cs : List Int32) (h : Heap) (v : Option Value) (h' : Heap) (L : List Loc) : Prop := v = none ∧ (∀ y ∈ L, y.base = x) ∧ RoadKit.Keep h h' [x] ∧ h'.size = h.size + 1 ∧ RoadKit.Exa Z h' x ST ∧ RoadKit.Fld Z h' x ST "value" "[B" (.ref h.size) ∧ RoadKit.Fld Z h' x ST "coder" "B" (.int 0) ∧
  (∃ kb, Z.vm.findClass "[B" = some kb ∧ RoadKit.Arv Z h' h.size kb .byte zn (cs.map fun c => .int (lo8 c)) (.int 0)) ∧
  ∀ (O n d : String) (w : Value), RoadKit.Fld Z h x O n d w → RoadKit.slotOf Z O n d ≠ RoadKit.slotOf Z ST "value" "[B" → RoadKit.slotOf Z O n d ≠ RoadKit.slotOf Z ST "coder" "B" → RoadKit.Fld Z h' x O n d w
/-- **new String(chars) AT A CALL, THE ARRAYS AS LISTS**: the char[] at b holds cs, not empty, no char above 255 -/
theorem backArv {p : Program} {l : Launch} {e : Env} {R : Room} {s : State} {args : Array Value} {below : List Frame} {len W : Nat} {Z : State} {a0 : Array Value} {h : Heap} (hZ : Z.Warmed39 s.vm) (hw : ∀ d ∈ words, d.before a0 Z = true) {kI : Nat} (wi : (Jvm.Cond.instantiable ST kI).before a0 Z = true)
    {x b : Addr} {k : ClassId} {zn z : Int32} {cs : List Int32} {dv v0 c0 : Value} (E : RoadKit.Exa Z h x ST) (V : RoadKit.Fld Z h x ST "value" "[B" v0) (C : RoadKit.Fld Z h x ST "coder" "B" c0) (K : RoadKit.Arv Z h b k .char zn (cs.map Value.int) dv) (S : RoadKit.Sta Z h ST "COMPACT_STRINGS" "Z" (.int z)) (hz : ¬ z = 0)
    (hlen : zn.toNatClampNeg = cs.length) (h0 : 0 < cs.length) (hbig : cs.length ≤ 536870912) (hall : ∀ c ∈ cs, ¬ 255 < c) (hfr : 4 ≤ R.frames) (hlo : W + 65 ≤ R.locals) :
    Back l R p e below s args New1.yN len W (fun P a => a = #[.ref x, .ref b] ∧ P.U.heap = h ∧ P.cells + 1 ≤ R.cells ∧ P.slots + cs.length ≤ R.slots)
      (fun P _ v B => ∃ L, QA Z x zn cs h v B.U.heap L ∧ B.locs = P.locs ++ L ∧ B.cells = P.cells + 1 ∧ B.slots = P.slots + cs.length) := by
  obtain ⟨A, K1, K2, K3, K4, K5, K6⟩ := K
  have e : A.slots.size = cs.length := K3.trans hlen
  have hat : ∀ (i : Nat) (hi : i < cs.length), A.slots[i]? = some (.int cs[i]) := fun i hi => by rw [K5 i (by omega)]; simp [List.getD_eq_getElem?_getD, hi]
  have hcv : ∀ (i : Nat) (hi : i < cs.length), cv A i = cs[i] := fun i hi => by unfold cv; rw [hat i hi]
  have hty : Typed .char A := fun i v hv => by
    have hi : i < A.slots.size := (Array.getElem?_eq_some_iff.mp hv).1
    have q := K5 i hi
    rw [hv] at q
    rw [Option.some.inj q]
    exact K6 i hi
  refine Back.mono (back hZ hw wi E V C K1 hty S hz (by omega) (by omega) (fun i hi => by rw [hcv i (by omega)]; exact hall _ (List.getElem_mem _)) hfr hlo) (fun P a hp => ⟨hp.1, hp.2.1, hp.2.2.1, by rw [e]; exact hp.2.2.2⟩) (fun P a v B hp hq => ?_)
  obtain ⟨L, ⟨q1, q2, q3, q4, q5, q6, q7, ⟨V', v1, v2, v3, v4, v5⟩, q9⟩, hl, hc, hs⟩ := hq
  refine ⟨L, ⟨q1, q2, q3, q4, q5, q6, q7, ⟨V'.cls, v3, V', v1, rfl, by rw [v4, e, hlen], K4, fun i hi => ?_, fun i hi => ?_⟩, q9⟩, hl, hc, by rw [hs, e]⟩
  · have hi' : i < cs.length := by omega
    rw [v5 i (by omega), hcv i hi']; simp [List.getD_eq_getElem?_getD, hi']
  · have hi' : i < cs.length := by omega
    simp only [List.getD_eq_getElem?_getD, List.getElem?_map, List.getElem?_eq_getElem hi', Option.map_some, Option.getD_some]
    exact fits_lo8 _
end StrChars.Road
namespace StrChars.Road
open Jvm Sem ClassFile Op Lib Jvm.Stand Jvm.Free Jvm.Free.XT
/-- WHAT COMES BACK, in the writer's own shape -/
def QV (Z : State) (x : Addr) (N : Int32) (bs : List Int32) (h : Heap) (n0 : Nat) (v : Option Value) (h' : Heap) (L : List Loc) : Prop := v = none ∧ RoadKit.Fr n0 L ∧ RoadKit.Keep h h' [x] ∧ RoadKit.Exa Z h' x ST ∧ RoadKit.Fld Z h' x ST "coder" "B" (.int 0) ∧
  ∃ (t : Addr) (kb : ClassId), n0 ≤ t ∧ h.size ≤ t ∧ ¬ t = x ∧ RoadKit.Fld Z h' x ST "value" "[B" (.ref t) ∧ RoadKit.Arv Z h' t kb .byte N (bs.map Value.int) (.int 0)
/-- **new String(chars) AT A CALL, FOR THE WRITER**: a char[] of n known ints, each 0 to 255 -/
theorem backV {p : Program} {l : Launch} {e : Env} {R : Room} {s : State} {args : Array Value} {below : List Frame} {len W : Nat} {Z : State} {a0 : Array Value} {h : Heap} (hZ : Z.Warmed39 s.vm) (hw : ∀ d ∈ words, d.before a0 Z = true) {kI : Nat} (wi : (Jvm.Cond.instantiable ST kI).before a0 Z = true)
    {x b : Addr} {kC : ClassId} {cs bs : List Int32} {d v0 c0 : Value} {z N : Int32} {n n0 : Nat} (hx0 : n0 ≤ x) (hh0 : n0 ≤ h.size) (E : RoadKit.Exa Z h x ST) (V : RoadKit.Fld Z h x ST "value" "[B" v0) (C : RoadKit.Fld Z h x ST "coder" "B" c0) (K : RoadKit.Arv Z h b kC .char N (cs.map Value.int) d) (S : RoadKit.Sta Z h ST "COMPACT_STRINGS" "Z" (.int z)) (hz : ¬ z = 0)
    (hn : cs.length = n) (hN : N = Int32.ofNat n) (l0 : 0 < n) (l2 : n ≤ 4000) (hp : ∀ c ∈ cs, ¬ c < 0 ∧ ¬ (255 : Int32) < c) (hb : bs = cs.map (fun c => c.toInt8.toInt32)) (hfr : 4 ≤ R.frames) (hlo : W + 65 ≤ R.locals) :
    Back l R p e below s args (⟨"java/lang/String", "<init>", "([C)V"⟩ : MethodName) len W (fun P a => a = #[.ref x, .ref b] ∧ P.U.heap = h ∧ P.cells + 1 ≤ R.cells ∧ P.slots + n ≤ R.slots)
      (fun P _ v B => ∃ L, QV Z x N bs h n0 v B.U.heap L ∧ B.locs = P.locs ++ L ∧ B.cells = P.cells + 1 ∧ B.slots = P.slots + n) := by
  subst hn hN hb
  refine Back.mono (backArv hZ hw wi E V C K S hz (n32 (by omega)) l0 (by omega) (fun c hc => (hp c hc).2) hfr hlo) (fun P a hp => hp) (fun P a v B hp hq => ?_)
  obtain ⟨L, ⟨q1, q2, q3, q4, q5, q6, q7, ⟨kb, v1, v2⟩, q9⟩, hl, hc, hs⟩ := hq
  exact ⟨L, ⟨q1, fun y hy => by rw [q2 y hy]; exact hx0, q3, q5, q7, h.size, kb, hh0, Nat.le_refl _, Nat.ne_of_gt E.lt, q6, by rw [List.map_map]; exact v2⟩, hl, hc, hs⟩
end StrChars.Road
namespace StrChars
open Jvm Sem ClassFile Op Lib Jvm.Stand Jvm.Free.XT Jvm.Free.ALB Jvm.Free.JM Jvm.Free
open Jvm.Lib.Cold (StaticIs)
def hi8 (x : Int32) : Int32 := lo8 (x >>> ((8 : Int32) &&& 31))
theorem shr0 (c : Int32) : c >>> ((0 : Int32) &&& 31) = c := by
  have e : ((0 : Int32) &&& 31) = 0 := by decide
  rw [e]
  apply Int32.toBitVec_inj.mp
  rw [Int32.toBitVec_shiftRight]
  have e1 : ((0 : Int32).toBitVec.smod 32) = 0#32 := by decide
  rw [e1, BitVec.sshiftRight_eq']
  exact BitVec.sshiftRight_zero
end StrChars
namespace StrChars
open Jvm Sem ClassFile Op Lib Jvm.Stand Jvm.Free.XT Jvm.Free.ALB Jvm.Free.JM Jvm.Free
open Jvm.Lib.Cold (StaticIs)
theorem shr1 {n : Nat} (h : 2 * n < 2 ^ 31) : Int32.ofNat (2 * n) >>> ((1 : Int32) &&& 31) = Int32.ofNat n := by
  have e : ((1 : Int32) &&& 31) = 1 := by decide
  rw [e]
  apply Int32.toBitVec_inj.mp
  rw [Int32.toBitVec_shiftRight]
  have e1 : ((1 : Int32).toBitVec.smod 32) = 1#32 := by decide
  have hm : (BitVec.ofNat 32 (2 * n)).toNat = 2 * n := by rw [BitVec.toNat_ofNat, Nat.mod_eq_of_lt (by omega)]
  rw [e1, BitVec.sshiftRight_eq']
  apply BitVec.eq_of_toNat_eq
  show ((BitVec.ofNat 32 (2 * n)).sshiftRight 1).toNat = (BitVec.ofNat 32 n).toNat
  rw [BitVec.toNat_sshiftRight_of_msb_false (by rw [BitVec.msb_eq_false_iff_two_mul_lt, hm]; omega), hm, BitVec.toNat_ofNat, Nat.shiftRight_eq_div_pow]
  omega
/-- the array's cell V codes the n chars f 0 .. f (n - 1) by the coder cd, as the JDK does: coder 1 just where some char is above 255 -/
def Cod (cd : Int32) (n : Nat) (f : Nat → Int32) (V : Cell) : Prop := (cd = 0 ∧ V.slots.size = n ∧ ∀ j, j < n → V.slots[j]? = some (.int (lo8 (f j))) ∧ ¬ 255 < f j) ∨ (cd = 1 ∧ V.slots.size = 2 * n ∧ (∀ j, j < n → V.slots[2 * j]? = some (.int (lo8 (f j))) ∧ V.slots[2 * j + 1]? = some (.int (hi8 (f j)))) ∧ ∃ j, j < n ∧ 255 < f j)
theorem Cod.cd {cd : Int32} {n : Nat} {f : Nat → Int32} {V : Cell} (h : Cod cd n f V) : cd = 0 ∨ cd = 1 := h.imp (fun q => q.1) fun q => q.1
theorem Cod.len {cd : Int32} {n : Nat} {f : Nat → Int32} {V : Cell} (h : Cod cd n f V) (hs : V.slots.size < 2 ^ 31) : Int32.ofNat V.slots.size >>> (cd &&& 31) = Int32.ofNat n := by
  rcases h with ⟨rfl, h, -⟩ | ⟨rfl, h, -⟩
  · rw [shr0, h]
  · rw [h, shr1 (by omega)]
/-- **x is a String of the n chars f 0 .. f (n - 1)**, Latin-1 or UTF-16; its array at t has the cell V -/
def Txt (x t : Addr) (V : Cell) (cd : Int32) (n : Nat) (f : Nat → Int32) (U : State) : Prop := Exact "java/lang/String" x U ∧ Has x "java/lang/String" "value" "[B" (.ref t) U ∧ Has x "java/lang/String" "coder" "B" (.int cd) U ∧ XT.Arr .byte t V U ∧ Cod cd n f V ∧ ∀ j, j < n → ¬ f j < 0 ∧ ¬ 65535 < f j
theorem Txt.mv {x t : Addr} {V : Cell} {cd : Int32} {n : Nat} {f : Nat → Int32} {U U' : State} (h : Txt x t V cd n f U) (hal : U.vm.Alike U'.vm) (hh : U'.heap = U.heap) : Txt x t V cd n f U' := ⟨h.1.mv hal hh, h.2.1.mv hal hh, h.2.2.1.mv hal hh, h.2.2.2.1.mv hal hh, h.2.2.2.2⟩
namespace Cdr
def yN : MethodName := ⟨"java/lang/String", "coder", "()B"⟩
abbrev yB : ByteArray := jdk_42_method_152_code
theorem d0 : decode yB 0 = .ok (.getstatic 38, 3) := by decide +kernel
theorem d3 : decode yB 3 = .ok (.ifCond (.eq) 10, 3) := by decide +kernel
theorem d6 : decode yB 6 = .ok (.aload_n 0, 1) := by decide +kernel
theorem d7 : decode yB 7 = .ok (.getfield 15, 3) := by decide +kernel
theorem d10 : decode yB 10 = .ok (.goto 4, 3) := by decide +kernel
theorem d14 : decode yB 14 = .ok (.ireturn, 1) := by decide +kernel
def site : List Cond := [.fieldLink "java/lang/String" 38 "java/lang/String" "COMPACT_STRINGS" "Z", .fieldLink "java/lang/String" 15 "java/lang/String" "coder" "B"]
def tab : Cond := tabOf yN yB 1 (some .byte) site
def P (x : Addr) (cd z : Int32) (args : Array Value) (s : State) : Prop := args = #[.ref x] ∧ Has x "java/lang/String" "coder" "B" (.int cd) s ∧ (cd = 0 ∨ cd = 1) ∧ StaticIs s "java/lang/String" "COMPACT_STRINGS" "Z" (.int z) ∧ ¬ z = 0
def E (cd : Int32) (r : Option Value) (s u : State) : Prop := XT.PureE (some (.int cd)) r s u
theorem law (l : Launch) (x : Addr) (cd z : Int32) : Law l yN 1 0 0 0 yB 1 (some .byte) site (P x cd z) (E cd) [] 0 0 := by
  refine Law.of_walk (plainFor_of_name (by decide +kernel)) (by decide +kernel) (by decide +kernel) (by decide) (fun _ _ h => by rw [h.1]; rfl) (fun _ U U' hal hh h => ⟨h.1, h.2.1.mv hal hh, h.2.2.1, h.2.2.2.1.there hal hh, h.2.2.2.2⟩) (fun r U U' V V' h1 hal h2 h => XT.PureE.mv r U U' V V' h1 hal h2 h) ?_
  intro p e s m args below meth c s₁ X0 hexec hbytes hml hret hlk hnm hown hh0 W hP
  obtain ⟨rfl, hx, hc, s1, hz⟩ := hP
  have c1 : Steps p.tables e below (s₁.setTop (entryFrame m #[.ref x] 1)) (s₁.setTop (mkF m 0 #[.val (.ref x)] [])) := entry rfl
  obtain ⟨T2, X2, q2, st2⟩ := X0.sget hexec hown (wk W (.fieldLink "java/lang/String" 38 "java/lang/String" "COMPACT_STRINGS" "Z")) s1 (fun _ _ h => by rw [hh0]; exact h) (g := (mkF m 0 #[.val (.ref x)] [])) rfl (hb hbytes d0)
  have hh2 := q2.trans hh0
  have c3 : Steps p.tables e below (s₁.setTop (entryFrame m #[.ref x] 1)) (T2.setTop (mkF m 7 #[.val (.ref x)] [.ref x])) := (c1.trans (st2 _ (Steps.refl _))).trans (by
    refine XS.ifNo X2.here hexec rfl (hb hbytes d3) rfl (i0_eq_f hz) ?_
    refine XS.aloadN X2.here hexec rfl (hb hbytes d6) rfl rfl ?_
    exact Steps.refl _)
  obtain ⟨T4, X4, q4, st4⟩ := X2.hget hexec hown (wk W (.fieldLink "java/lang/String" 15 "java/lang/String" "coder" "B")) (hx.mv X2.warmed.alike hh2) (g := (mkF m 7 #[.val (.ref x)] [.ref x])) rfl (rest := []) rfl (hb hbytes d7)
  have c5 : Steps p.tables e below (s₁.setTop (entryFrame m #[.ref x] 1)) (T4.setTop (mkF m 14 #[.val (.ref x)] [.int cd])) := (c3.trans (st4 _ (Steps.refl _))).trans (by
    refine XS.goto X4.here hexec rfl (pc0 := 10) rfl (hb hbytes d10) (by decide) rfl ?_
    exact Steps.refl _)
  exact ⟨T4, some (.int cd), _, _, _, X4, rfl, rfl, rfl, (fun h => by cases h), ⟨rfl, q4.trans hh2⟩, fun fs hl => c5.trans (X4.ireturnOut hexec hret (by rcases hc with rfl | rfl <;> rfl) (Or.inr (Or.inr (Or.inl rfl))) (hb hbytes d14) hl)⟩
end Cdr
namespace Len
def yN : MethodName := ⟨"java/lang/String", "length", "()I"⟩
abbrev yB : ByteArray := jdk_42_method_54_code
theorem d0 : decode yB 0 = .ok (.aload_n 0, 1) := by decide +kernel
theorem d1 : decode yB 1 = .ok (.getfield 9, 3) := by decide +kernel
theorem d4 : decode yB 4 = .ok (.arraylength, 1) := by decide +kernel
theorem d5 : decode yB 5 = .ok (.aload_n 0, 1) := by decide +kernel
theorem d6 : decode yB 6 = .ok (.invokevirtual 335, 3) := by decide +kernel
theorem d9 : decode yB 9 = .ok (.ishr, 1) := by decide +kernel
theorem d10 : decode yB 10 = .ok (.ireturn, 1) := by decide +kernel
def site : List Cond := [.fieldLink "java/lang/String" 9 "java/lang/String" "value" "[B", Cdr.tab] ++ virtW "java/lang/String" 335 "java/lang/String" Cdr.yN Cdr.yN
def tab : Cond := tabOf yN yB 1 (some .int) site
def P (x t : Addr) (V : Cell) (cd : Int32) (n : Nat) (f : Nat → Int32) (z : Int32) (args : Array Value) (s : State) : Prop := args = #[.ref x] ∧ Txt x t V cd n f s ∧ StaticIs s "java/lang/String" "COMPACT_STRINGS" "Z" (.int z) ∧ ¬ z = 0
def E (n : Nat) (r : Option Value) (s u : State) : Prop := XT.PureE (some (.int (Int32.ofNat n))) r s u
/-- length() of a String of n chars, in either coding -/
theorem law (l : Launch) (x t : Addr) (V : Cell) (cd : Int32) (n : Nat) (f : Nat → Int32) (z : Int32) : Law l yN 1 0 1 13 yB 1 (some .int) site (P x t V cd n f z) (E n) [] 0 0 := by
  refine Law.of_walk (plainFor_of_name (by decide +kernel)) (by decide +kernel) (by decide +kernel) (by decide) (fun _ _ h => by rw [h.1]; rfl) (fun _ U U' hal hh h => ⟨h.1, h.2.1.mv hal hh, h.2.2.1.there hal hh, h.2.2.2⟩) (fun r U U' V V' h1 hal h2 h => XT.PureE.mv r U U' V V' h1 hal h2 h) ?_
  intro p e s m args below meth c s₁ X0 hexec hbytes hml hret hlk hnm hown hh0 W hP
  obtain ⟨rfl, hx, s1, hz⟩ := hP
  have v31 := hx.2.2.2.1.2.2.2
  have c1 : Steps p.tables e below (s₁.setTop (entryFrame m #[.ref x] 1)) (s₁.setTop (mkF m 1 #[.val (.ref x)] [.ref x])) := Steps.trans (entry rfl) (by
    show Steps p.tables e below (s₁.setTop (mkF m 0 #[.val (.ref x)] [])) _
    refine XS.aloadN X0.here hexec rfl (hb hbytes d0) rfl rfl ?_
    exact Steps.refl _)
  obtain ⟨T2, X2, q2, st2⟩ := X0.hget hexec hown (wk W (.fieldLink "java/lang/String" 9 "java/lang/String" "value" "[B")) (hx.mv X0.warmed.alike hh0).2.1 (g := (mkF m 1 #[.val (.ref x)] [.ref x])) rfl (rest := []) rfl (hb hbytes d1)
  have hh2 := q2.trans hh0
  have hx2 := hx.mv X2.warmed.alike hh2
  have c3 : Steps p.tables e below (s₁.setTop (entryFrame m #[.ref x] 1)) (T2.setTop (mkF m 6 #[.val (.ref x)] [.ref x, .int (Int32.ofNat V.slots.size)])) := (c1.trans (st2 _ (Steps.refl _))).trans (by
    refine X2.alen hexec hx2.2.2.2.1 rfl rfl (hb hbytes d4) ?_
    refine XS.aloadN X2.here hexec rfl (hb hbytes d5) rfl rfl ?_
    exact Steps.refl _)
  obtain ⟨v4, T4, X4, E4, g4⟩ := X2.callV hexec (Cdr.law l x cd z) hown (wks W (virtW "java/lang/String" 335 "java/lang/String" Cdr.yN Cdr.yN)) rfl (by decide) (wk W Cdr.tab) (W := 1) (Nat.le_of_ble_eq_true rfl) (Nat.le_of_ble_eq_true rfl) (Nat.le_refl _) (Nat.le_refl _) (hx2.1.fc X2.warmed.alike) hx2.1.is (g := (mkF m 6 #[.val (.ref x)] [.ref x, .int (Int32.ofNat V.slots.size)])) rfl (by rw [hml]; rfl) c3 (argsL := []) (rest := [.int (Int32.ofNat V.slots.size)]) rfl rfl (by show 2 * 0 + (1 + 0) ≤ _; decide) (hb hbytes d6) (⟨rfl, hx2.2.2.1, hx.2.2.2.2.1.cd, s1.there X2.warmed.alike hh2, hz⟩)
  obtain ⟨rfl, q4⟩ := E4
  have c5 : Steps p.tables e below (s₁.setTop (entryFrame m #[.ref x] 1)) (T4.setTop (mkF m 10 #[.val (.ref x)] [.int (Int32.ofNat V.slots.size >>> (cd &&& 31))])) := Steps.trans g4 (by
    refine ishr X4.here hexec rfl (hb hbytes d9) rfl ?_
    exact Steps.refl _)
  rw [hx.2.2.2.2.1.len v31] at c5
  exact ⟨T4, some (.int (Int32.ofNat n)), _, _, _, X4, rfl, rfl, rfl, (fun h => by cases h), ⟨rfl, q4.trans hh2⟩, fun fs hl => c5.trans (X4.ireturnOut hexec hret rfl (Or.inl rfl) (hb hbytes d10) hl)⟩
theorem pays {l : Launch} {R : Room} {p : Program} {e : Env} {below : List Frame} {s : State} {sargs : Array Value} {len W : Nat} (x t : Addr) (V : Cell) (cd : Int32) (n : Nat) (f : Nat → Int32) (z : Int32) (htab : tab.before sargs s = true) (hfr : 2 ≤ R.frames) (hlo : W + 25 ≤ R.locals) :
    Back l R p e below s sargs yN len W (fun A₁ a₁ => A₁.cells + 0 ≤ R.cells ∧ A₁.slots + 0 ≤ R.slots ∧ P x t V cd n f z a₁ A₁.U) (fun A₁ _ v₁ B₁ => E n v₁ A₁.U B₁.U ∧ B₁.locs = A₁.locs ++ [] ∧ B₁.cells = A₁.cells + 0 ∧ B₁.slots = A₁.slots + 0) :=
  (law l x t V cd n f z).pays htab hfr (by omega)
end Len
end StrChars
namespace StrChars.Road
open Jvm Sem ClassFile Op Lib Jvm.Stand Jvm.Free Jvm.Free.XT
open Jvm.Lib.Cold (StaticIs)
theorem consq {a : Array Value} {s : State} {c : Jvm.Cond} {L : List Jvm.Cond} (h0 : c.before a s = true) (h : ∀ w ∈ L, w.before a s = true) : ∀ w ∈ c :: L, w.before a s = true := fun w hw => (List.mem_cons.mp hw).elim (fun e => e ▸ h0) (h w)
/-- the words of String.length(), either coding -/
abbrev wordsLen : List Jvm.Cond := [.code Len.yN Len.yB 1 (some .int), .initialized ST, .fieldLink ST 9 ST "value" "[B", .fieldLink ST 38 ST "COMPACT_STRINGS" "Z", .fieldLink ST 15 ST "coder" "B", .code Cdr.yN Cdr.yB 1 (some .byte), .methodLink ST 335 Cdr.yN, .declares Cdr.yN, .selects ST Cdr.yN Cdr.yN, .instanceMethod Cdr.yN]
theorem tabLen_of {a : Array Value} {s : State} (h : ∀ w ∈ wordsLen, w.before a s = true) : Len.tab.before a s = true := by
  have hc : Cdr.tab.before a s = true := unparts (wk h (.code Cdr.yN Cdr.yB 1 (some .byte))) (wks h (.initialized Cdr.yN.cls :: Cdr.site))
  have q := consq hc h
  exact unparts (wk q (.code Len.yN Len.yB 1 (some .int))) (wks q (.initialized Len.yN.cls :: Len.site))
theorem movedLen {Z s : State} {a0 args : Array Value} (hZ : Z.Warmed39 s.vm) (hw : ∀ d ∈ wordsLen, d.before a0 Z = true) : ∀ d ∈ wordsLen, d.before args s = true := fun d hd => by
  have q := hw d hd
  have t : ∀ d ∈ wordsLen, d = .arrayClass .byte ∨ (d.onTables && d.keepsFace) = true := by decide +kernel
  rcases t d hd with rfl | t
  · exact RoadKit.mvA hZ q
  · exact RoadKit.mv hZ q t
/-- the bytes of the chars cs, low before high -/
def wideBytes : List Int32 → List Value
  | [] => []
  | c :: cs => .int (lo8 c) :: .int (hi8 c) :: wideBytes cs
theorem wide_lo (d : Value) : ∀ (cs : List Int32) (j : Nat), j < cs.length → (wideBytes cs).getD (2 * j) d = .int (lo8 (cs.getD j 0))
  | [], j, h => absurd h (Nat.not_lt_zero j)
  | c :: cs, 0, _ => rfl
  | c :: cs, j + 1, h => by
    have q := wide_lo d cs j (by simpa using h)
    rw [show 2 * (j + 1) = 2 * j + 1 + 1 from by omega]
    simpa [wideBytes] using q
theorem wide_hi (d : Value) : ∀ (cs : List Int32) (j : Nat), j < cs.length → (wideBytes cs).getD (2 * j + 1) d = .int (hi8 (cs.getD j 0))
  | [], j, h => absurd h (Nat.not_lt_zero j)
  | c :: cs, 0, _ => rfl
  | c :: cs, j + 1, h => by
    have q := wide_hi d cs j (by simpa using h)
    rw [show 2 * (j + 1) + 1 = 2 * j + 1 + 1 + 1 from by omega]
    simpa [wideBytes] using q
theorem low_at (d : Value) (cs : List Int32) (j : Nat) (h : j < cs.length) : (cs.map fun c => Value.int (lo8 c)).getD j d = .int (lo8 (cs.getD j 0)) := by
  simp [List.getD_eq_getElem?_getD, h]
/-- an array of N2 bytes vs codes the chars cs by the coder cd -/
def CodA (cs : List Int32) (cd N2 : Int32) (vs : List Value) : Prop := (cd = 0 ∧ N2 = Int32.ofNat cs.length ∧ vs = (cs.map fun c => Value.int (lo8 c)) ∧ ∀ c ∈ cs, ¬ 255 < c) ∨ (cd = 1 ∧ N2 = Int32.ofNat (2 * cs.length) ∧ vs = wideBytes cs ∧ ∃ c ∈ cs, 255 < c)
theorem CodA.cod {cs : List Int32} {cd N2 : Int32} {vs : List Value} {V : Cell} (h : CodA cs cd N2 vs) (hn : 2 * cs.length < 2 ^ 31) (hs : V.slots.size = N2.toNatClampNeg) (hv : RoadKit.Has V vs (.int 0)) : Cod cd cs.length (fun j => cs.getD j 0) V := by
  rcases h with ⟨rfl, rfl, rfl, h⟩ | ⟨rfl, rfl, rfl, c, hc, hw⟩
  · rw [n32 (by omega)] at hs
    exact Or.inl ⟨rfl, hs, fun j hj => ⟨by rw [hv j (by omega), low_at _ _ _ hj], by
      have e : cs.getD j 0 = cs[j] := by simp [List.getD_eq_getElem?_getD, hj]
      show ¬ 255 < cs.getD j 0
      rw [e]; exact h _ (List.getElem_mem _)⟩⟩
  · rw [n32 (by omega)] at hs
    obtain ⟨j, hj, rfl⟩ := List.getElem_of_mem hc
    exact Or.inr ⟨rfl, hs, fun j hj => ⟨by rw [hv _ (by omega), wide_lo _ _ _ hj], by rw [hv _ (by omega), wide_hi _ _ _ hj]⟩, j, hj, by
      have e : cs.getD j 0 = cs[j] := by simp [List.getD_eq_getElem?_getD, hj]
      show 255 < cs.getD j 0
      rw [e]; exact hw⟩
/-- an object of exactly java/lang/String, its two fields found: as the laws ask it -/
theorem strObj {Z U : State} {a0 : Array Value} {kI : Nat} (wi : (Jvm.Cond.instantiable ST kI).before a0 Z = true) (al : Z.vm.Alike U.vm) {x : Addr} {v0 c0 : Value} (E : RoadKit.Exa Z U.heap x ST) (V : RoadKit.Fld Z U.heap x ST "value" "[B" v0) (C : RoadKit.Fld Z U.heap x ST "coder" "B" c0) :
    ∃ (D : Cell) (fV fC : Field), Blank ST x D U ∧ Found ST "value" "[B" fV U ∧ Found ST "coder" "B" fC U ∧ D.slots[fV.slot]? = some v0 ∧ D.slots[fC.slot]? = some c0 ∧ RoadKit.slotOf Z ST "value" "[B" = fV.slot ∧ RoadKit.slotOf Z ST "coder" "B" = fC.slot := by
  obtain ⟨D, cfV, kV, iV, fV, hD, gV, stV, knV, obV, asV, slV⟩ := V
  obtain ⟨D', cfC, kC, iC, fC, hD', gC, stC, -, -, asC, slC⟩ := C
  cases hD.symm.trans hD'
  obtain ⟨D2, kD, e1, e2, e3, e4, e5⟩ := E
  cases hD.symm.trans e1
  obtain ⟨c2, k2, i1, i2, i3, -⟩ := Cond.instantiable_spec wi
  cases e2.symm.trans i1
  cases e3.symm.trans i2
  obtain ⟨kU, u1, u2⟩ := al.2.2 _ _ e3
  exact ⟨D, fV, fC, ⟨hD, ⟨knV, fun q hq => by rw [hq] at obV; cases obV⟩, by rw [al.findClass]; exact e2, kU, u1, by rw [u2]; exact i3, by rw [u2]; exact e5 i3⟩, ⟨SBG.found_only al ⟨cfV, kV, iV, gV⟩, stV⟩, ⟨SBG.found_only al ⟨cfC, kC, iC, gC⟩, stC⟩, slV, slC, by simp [RoadKit.slotOf, gV], by simp [RoadKit.slotOf, gC]⟩
theorem sta_is {Z U : State} (al : Z.vm.Alike U.vm) {C n d : String} {v : Value} (S : RoadKit.Sta Z U.heap C n d v) : StaticIs U C n d v := by
  obtain ⟨cfS, iS, kS, fS, st, cS, t1, t2, t3, t4, t5, t6, t7⟩ := S
  exact StaticIs.there (s := { Z with heap := U.heap }) ⟨cfS, iS, kS, fS, st, cS, t1, t2, t3, t4, t5, (fun q => by rw [q] at t6; cases t6), t7⟩ al rfl
/-- **length() OF SUCH A STRING** -/
theorem lenW {p : Program} {l : Launch} {e : Env} {R : Room} {s : State} {args : Array Value} {below : List Frame} {len W : Nat} {Z : State} {a0 : Array Value} {h : Heap} (hZ : Z.Warmed39 s.vm) (hw : ∀ d ∈ wordsLen, d.before a0 Z = true) {kI : Nat} (wi : (Jvm.Cond.instantiable ST kI).before a0 Z = true)
    {x t : Addr} {kb : ClassId} {cs : List Int32} {cd N2 z : Int32} {vs : List Value} (E : RoadKit.Exa Z h x ST) (V : RoadKit.Fld Z h x ST "value" "[B" (.ref t)) (C : RoadKit.Fld Z h x ST "coder" "B" (.int cd)) (K : RoadKit.Arv Z h t kb .byte N2 vs (.int 0)) (hc : CodA cs cd N2 vs) (hb : ∀ c ∈ cs, ¬ c < 0 ∧ ¬ (65535 : Int32) < c)
    (S : RoadKit.Sta Z h ST "COMPACT_STRINGS" "Z" (.int z)) (hz : ¬ z = 0) (l2 : cs.length ≤ 4000) (hfr : 2 ≤ R.frames) (hlo : W + 25 ≤ R.locals) :
    Back l R p e below s args (⟨"java/lang/String", "length", "()I"⟩ : MethodName) len W (fun P a => a = #[.ref x] ∧ P.U.heap = h ∧ P.cells + 0 ≤ R.cells ∧ P.slots + 0 ≤ R.slots)
      (fun P _ v B => ∃ L, (v = some (.int (Int32.ofNat cs.length)) ∧ L = [] ∧ B.U.heap = h) ∧ B.locs = P.locs ++ L ∧ B.cells = P.cells + 0 ∧ B.slots = P.slots + 0) := by
  obtain ⟨A, K1, K2, K3, K4, K5, K6⟩ := K
  have hcod := hc.cod (by omega) K3 K5
  intro m meth c P g ig mk a X hg hsize hdg hW hn hp'
  obtain ⟨rfl, rfl, r1, r2⟩ := hp'
  have al : Z.vm.Alike P.U.vm := hZ.alike.trans X.warmed.alike
  obtain ⟨D, fV, fC, hB, F1, F2, g1, g2, -, -⟩ := strObj wi al E V C
  have hx : Txt x t A cd cs.length (fun j => cs.getD j 0) P.U := ⟨⟨_, hB.2.2.1, D, hB.1, rfl, by cases q : D.vm <;> first | rfl | exact absurd q (hB.2.1.2 _)⟩, Has.of hB F1 g1, Has.of hB F2 g2, ⟨K1.1, State.isArrayOf_alike al K1.2.1, K1.2.2, by rcases hcod with ⟨-, q, -⟩ | ⟨-, q, -⟩ <;> omega⟩, hcod, fun j hj => by
    have e : cs.getD j 0 = cs[j] := by simp [List.getD_eq_getElem?_getD, hj]
    show ¬ cs.getD j 0 < 0 ∧ ¬ 65535 < cs.getD j 0
    rw [e]; exact hb _ (List.getElem_mem _)⟩
  obtain ⟨v, B, X', ⟨⟨hv, hh⟩, hl, hk, hs⟩, st⟩ := Len.pays x t A cd cs.length (fun j => cs.getD j 0) z (tabLen_of (movedLen hZ hw)) hfr hlo m meth c P g ig mk _ X hg hsize hdg hW hn ⟨r1, r2, rfl, hx, sta_is al S, hz⟩
  exact ⟨v, B, X', ⟨[], ⟨hv, rfl, hh⟩, hl, hk, hs⟩, st⟩
end StrChars.Road
namespace StrChars.Road
open Jvm Sem ClassFile Op Lib Jvm.Stand Jvm.Free Jvm.Free.XT
open Jvm.Lib.Cold (StaticIs)
/-- what backV says of its String, as the contracts of this text ask it: cs's low bytes, coder 0 -/
theorem codOf {cs : List Int32} {n : Nat} (hn : cs.length = n) (hb : ∀ c ∈ cs, ¬ 255 < c) : CodA cs 0 (Int32.ofNat n) ((cs.map lo8).map Value.int) := Or.inl ⟨rfl, by rw [hn], by simp [List.map_map, Function.comp_def], hb⟩
end StrChars.Road
end Jvm.Pilot.@@N@@
namespace Jvm.Pilot.@@N@@
open Jvm Jvm.ClassFile Sem Op Lib Jvm.Free Jvm.Stand Jvm.LawKit Jvm.RoadKit Bundle Jvm.Pilot.@@N@@.Jvm.D
section OwnKit
variable {p : Program} {l : Launch} {e : Env} {R : Room} {s : State} {m : MethodId} {args : Array Value} {below : List Frame} {meth : Method} {c : Code} {T : State} {locs : List Loc} {cells slots : Nat} {Z : State} {a0 : Array Value} {h : Heap} {Φ : Outcome → State → Prop}
def own_ushr (x y : Int32) : Int32 := (x.toUInt32 >>> (y &&& 31).toUInt32).toInt32
def own_ushrL (x : Int64) (y : Int32) : Int64 := (x.toUInt64 >>> (y &&& 0x3f).toInt64.toUInt64).toInt64
def own_Ends (p : Program) (e : Env) (below : List Frame) (Φ : Outcome → State → Prop) (t : State) : Prop := ∃ s₂ o, Steps p.tables e below t s₂ ∧ s₂.status = .running ∧ Ended s₂ below o ∧ Φ o s₂
theorem own_via {t t' : State} (k : ∀ u, Steps p.tables e below t' u → Steps p.tables e below t u) (h : own_Ends p e below Φ t') : own_Ends p e below Φ t := by
  obtain ⟨s₂, o, h1, h2⟩ := h; exact ⟨s₂, o, k _ h1, h2⟩
theorem own_thru {t t' : State} (k : Steps p.tables e below t t') (h : own_Ends p e below Φ t') : own_Ends p e below Φ t := own_via (fun _ q => k.trans q) h
def own_Post (s : State) (Q : Option Value → Heap → List Loc → Prop) (kc ks : Nat) (o : Outcome) (U : State) : Prop := ∃ v L, o = .returned v ∧ Q v U.heap L ∧ FrameEnd s o U L kc ks
def own_Met (l : Launch) (y : MethodName) (bytes : ByteArray) (maxL : Nat) (ret : Option FieldType) (rm : Room) (Z : State) (as' : Array Value) (h0 : Heap) (Q : Option Value → Heap → List Loc → Prop) : Prop :=
  ∀ ws : List Jvm.Cond, MetFree l y (head1 (Jvm.Cond.code y bytes maxL ret :: ws) rm) (fun a U => a = as' ∧ Z.Warmed39 U.vm ∧ U.heap = h0) (fun _ _ _ _ _ => True) (fun _ U o U' => ∃ v L, o = .returned v ∧ Q v U'.heap L ∧ FrameEnd U o U' L rm.cells rm.slots)
theorem own_met {y : MethodName} {bytes : ByteArray} {maxL : Nat} {ret : Option FieldType} {rm : Room} {as' : Array Value} {h0 : Heap} {Q : Option Value → Heap → List Loc → Prop} (hp : plainFor y = true)
    (body : ∀ (p : Program) (e : Env) (s : State) (m : MethodId) (below : List Frame) (meth : Method) (c : Code) (T : State), p.tables.exec = Jvm.exec → c.code = bytes → c.maxLocals = maxL → Z.Warmed39 s.vm → s.vm.findClass y.cls = some m.cls → meth.name = y.name → meth.sig.returnType = ret → meth.locks = false →
      Stand p l e rm s m as' below meth c T [] 0 0 → T.heap = h0 → s.heap = h0 → own_Ends p e below (own_Post s Q rm.cells rm.slots) (T.setTop (entryFrame m as' maxL))) : own_Met l y bytes maxL ret rm Z as' h0 Q := by
  intro ws
  refine MetFree.of_bodySF hp hisR ?_
  intro p e s m args below meth c s₁ Bd hml0 hP hK
  obtain ⟨rfl, hZ, hh⟩ := hP
  exact body p e s m below meth c s₁ Bd.exec Bd.bytes hml0 hZ (findClass_of_methodNamed Bd.named) (name_of_methodNamed Bd.named Bd.method).1 Bd.returns (BodyLoose.notSynchronized Bd) (Stand.of_body Bd) (by rw [← hh, Bd.state]; rfl) hh
theorem own_oz {n0 : Nat} (O : Old Z n0 h) : n0 ≤ h.size := O.1 ▸ O.2.1
theorem own_entry {g g' : JFrame} (q : g = g') (h : own_Ends p e below Φ (T.setTop g')) : own_Ends p e below Φ (T.setTop g) := q ▸ h
theorem own_iloadN (X : Stand p l e R s m args below meth c T locs cells slots) (hx : p.tables.exec = Jvm.exec) {pc pc' : Nat} {Ls : Array Slot} {rest : List Value} {k : Fin 4} {v : Int32} (hd : decode c.code pc = .ok (.iload_n k, 1)) (hl : Ls[k.val]? = some (.val (.int v))) (hp : pc + 1 = pc') (h : own_Ends p e below Φ (T.setTop (mkF m pc' Ls (.int v :: rest)))) : own_Ends p e below Φ (T.setTop (mkF m pc Ls (rest))) := by
  subst hp; exact own_via (fun _ k => XS.iloadN X.here hx (g := mkF m pc Ls (rest)) rfl hd hl k) h
theorem own_lloadN (X : Stand p l e R s m args below meth c T locs cells slots) (hx : p.tables.exec = Jvm.exec) {pc pc' : Nat} {Ls : Array Slot} {rest : List Value} {k : Fin 4} {v : Int64} (hd : decode c.code pc = .ok (.lload_n k, 1)) (hl : Ls[k.val]? = some (.val (.long v))) (hp : pc + 1 = pc') (h : own_Ends p e below Φ (T.setTop (mkF m pc' Ls (.long v :: rest)))) : own_Ends p e below Φ (T.setTop (mkF m pc Ls (rest))) := by
  subst hp; exact own_via (fun _ k => XS.lloadN X.here hx (g := mkF m pc Ls (rest)) rfl hd hl k) h
theorem own_aloadN (X : Stand p l e R s m args below meth c T locs cells slots) (hx : p.tables.exec = Jvm.exec) {pc pc' : Nat} {Ls : Array Slot} {rest : List Value} {k : Fin 4} {v : Value} (hd : decode c.code pc = .ok (.aload_n k, 1)) (hl : Ls[k.val]? = some (.val v)) (hv : v.isRef = true) (hp : pc + 1 = pc') (h : own_Ends p e below Φ (T.setTop (mkF m pc' Ls (v :: rest)))) : own_Ends p e below Φ (T.setTop (mkF m pc Ls (rest))) := by
  subst hp; exact own_via (fun _ k => XS.aloadN X.here hx (g := mkF m pc Ls (rest)) rfl hd hl hv k) h
theorem own_istoreN (X : Stand p l e R s m args below meth c T locs cells slots) (hx : p.tables.exec = Jvm.exec) {pc pc' : Nat} {Ls : Array Slot} {rest : List Value} {k : Fin 4} {v : Int32} (Ls' : Array Slot) (hd : decode c.code pc = .ok (.istore_n k, 1)) (hl : storeLocals Ls k.val (.int v) = some Ls') (hp : pc + 1 = pc') (h : own_Ends p e below Φ (T.setTop (mkF m pc' Ls' (rest)))) : own_Ends p e below Φ (T.setTop (mkF m pc Ls (.int v :: rest))) := by
  subst hp; exact own_via (fun _ k => XS.istoreN X.here hx (g := mkF m pc Ls (.int v :: rest)) rfl hd rfl hl k) h
theorem own_lstoreN (X : Stand p l e R s m args below meth c T locs cells slots) (hx : p.tables.exec = Jvm.exec) {pc pc' : Nat} {Ls : Array Slot} {rest : List Value} {k : Fin 4} {v : Int64} (Ls' : Array Slot) (hd : decode c.code pc = .ok (.lstore_n k, 1)) (hl : storeLocals Ls k.val (.long v) = some Ls') (hp : pc + 1 = pc') (h : own_Ends p e below Φ (T.setTop (mkF m pc' Ls' (rest)))) : own_Ends p e below Φ (T.setTop (mkF m pc Ls (.long v :: rest))) := by
  subst hp; exact own_via (fun _ k => XS.lstoreN X.here hx (g := mkF m pc Ls (.long v :: rest)) rfl hd rfl hl k) h
theorem own_astoreN (X : Stand p l e R s m args below meth c T locs cells slots) (hx : p.tables.exec = Jvm.exec) {pc pc' : Nat} {Ls : Array Slot} {rest : List Value} {k : Fin 4} {v : Value} (Ls' : Array Slot) (hd : decode c.code pc = .ok (.astore_n k, 1)) (hv : v.isRef = true) (hl : storeLocals Ls k.val v = some Ls') (hp : pc + 1 = pc') (h : own_Ends p e below Φ (T.setTop (mkF m pc' Ls' (rest)))) : own_Ends p e below Φ (T.setTop (mkF m pc Ls (v :: rest))) := by
  subst hp; exact own_via (fun _ k => XS.astoreN X.here hx (g := mkF m pc Ls (v :: rest)) rfl hd rfl hv hl k) h
theorem own_iload (X : Stand p l e R s m args below meth c T locs cells slots) (hx : p.tables.exec = Jvm.exec) {pc pc' : Nat} {Ls : Array Slot} {rest : List Value} {k : Nat} {v : Int32} (hd : decode c.code pc = .ok (.iload k, 2)) (hl : Ls[k]? = some (.val (.int v))) (hp : pc + 2 = pc') (h : own_Ends p e below Φ (T.setTop (mkF m pc' Ls (.int v :: rest)))) : own_Ends p e below Φ (T.setTop (mkF m pc Ls (rest))) := by
  subst hp; exact own_via (fun _ k => XS.iload X.here hx (g := mkF m pc Ls (rest)) rfl hd hl k) h
theorem own_lload (X : Stand p l e R s m args below meth c T locs cells slots) (hx : p.tables.exec = Jvm.exec) {pc pc' : Nat} {Ls : Array Slot} {rest : List Value} {k : Nat} {v : Int64} (hd : decode c.code pc = .ok (.lload k, 2)) (hl : Ls[k]? = some (.val (.long v))) (hp : pc + 2 = pc') (h : own_Ends p e below Φ (T.setTop (mkF m pc' Ls (.long v :: rest)))) : own_Ends p e below Φ (T.setTop (mkF m pc Ls (rest))) := by
  subst hp; exact own_via (fun _ k => XS.lload X.here hx (g := mkF m pc Ls (rest)) rfl hd hl k) h
theorem own_aload (X : Stand p l e R s m args below meth c T locs cells slots) (hx : p.tables.exec = Jvm.exec) {pc pc' : Nat} {Ls : Array Slot} {rest : List Value} {k : Nat} {v : Value} (hd : decode c.code pc = .ok (.aload k, 2)) (hl : Ls[k]? = some (.val v)) (hv : v.isRef = true) (hp : pc + 2 = pc') (h : own_Ends p e below Φ (T.setTop (mkF m pc' Ls (v :: rest)))) : own_Ends p e below Φ (T.setTop (mkF m pc Ls (rest))) := by
  subst hp; exact own_via (fun _ k => XS.aload X.here hx (g := mkF m pc Ls (rest)) rfl hd hl hv k) h
theorem own_istore (X : Stand p l e R s m args below meth c T locs cells slots) (hx : p.tables.exec = Jvm.exec) {pc pc' : Nat} {Ls : Array Slot} {rest : List Value} {k : Nat} {v : Int32} (Ls' : Array Slot) (hd : decode c.code pc = .ok (.istore k, 2)) (hl : storeLocals Ls k (.int v) = some Ls') (hp : pc + 2 = pc') (h : own_Ends p e below Φ (T.setTop (mkF m pc' Ls' (rest)))) : own_Ends p e below Φ (T.setTop (mkF m pc Ls (.int v :: rest))) := by
  subst hp; exact own_via (fun _ k => XS.istore X.here hx (g := mkF m pc Ls (.int v :: rest)) rfl hd rfl hl k) h
theorem own_lstore (X : Stand p l e R s m args below meth c T locs cells slots) (hx : p.tables.exec = Jvm.exec) {pc pc' : Nat} {Ls : Array Slot} {rest : List Value} {k : Nat} {v : Int64} (Ls' : Array Slot) (hd : decode c.code pc = .ok (.lstore k, 2)) (hl : storeLocals Ls k (.long v) = some Ls') (hp : pc + 2 = pc') (h : own_Ends p e below Φ (T.setTop (mkF m pc' Ls' (rest)))) : own_Ends p e below Φ (T.setTop (mkF m pc Ls (.long v :: rest))) := by
  subst hp; exact own_via (fun _ k => XS.lstore X.here hx (g := mkF m pc Ls (.long v :: rest)) rfl hd rfl hl k) h
theorem own_astore (X : Stand p l e R s m args below meth c T locs cells slots) (hx : p.tables.exec = Jvm.exec) {pc pc' : Nat} {Ls : Array Slot} {rest : List Value} {k : Nat} {v : Value} (Ls' : Array Slot) (hd : decode c.code pc = .ok (.astore k, 2)) (hv : v.isRef = true) (hl : storeLocals Ls k v = some Ls') (hp : pc + 2 = pc') (h : own_Ends p e below Φ (T.setTop (mkF m pc' Ls' (rest)))) : own_Ends p e below Φ (T.setTop (mkF m pc Ls (v :: rest))) := by
  subst hp; exact own_via (fun _ k => XS.astore X.here hx (g := mkF m pc Ls (v :: rest)) rfl hd rfl hv hl k) h
theorem own_iconst (X : Stand p l e R s m args below meth c T locs cells slots) (hx : p.tables.exec = Jvm.exec) {pc pc' : Nat} {Ls : Array Slot} {rest : List Value} {i : Int} (v : Int32) (hd : decode c.code pc = .ok (.iconst i, 1)) (hv : Int32.ofInt i = v) (hp : pc + 1 = pc') (h : own_Ends p e below Φ (T.setTop (mkF m pc' Ls (.int v :: rest)))) : own_Ends p e below Φ (T.setTop (mkF m pc Ls rest)) := by
  subst hp hv; exact own_via (fun _ k => XS.iconst X.here hx (g := mkF m pc Ls rest) rfl hd k) h
theorem own_bipush (X : Stand p l e R s m args below meth c T locs cells slots) (hx : p.tables.exec = Jvm.exec) {pc pc' : Nat} {Ls : Array Slot} {rest : List Value} {i : Int} (v : Int32) (hd : decode c.code pc = .ok (.bipush i, 2)) (hv : (Int8.ofInt i).toInt32 = v) (hp : pc + 2 = pc') (h : own_Ends p e below Φ (T.setTop (mkF m pc' Ls (.int v :: rest)))) : own_Ends p e below Φ (T.setTop (mkF m pc Ls rest)) := by
  subst hp hv; exact own_via (fun _ k => XS.bipush X.here hx (g := mkF m pc Ls rest) rfl hd k) h
theorem own_sipush (X : Stand p l e R s m args below meth c T locs cells slots) (hx : p.tables.exec = Jvm.exec) {pc pc' : Nat} {Ls : Array Slot} {rest : List Value} {i : Int} (v : Int32) (hd : decode c.code pc = .ok (.sipush i, 3)) (hv : (Int16.ofInt i).toInt32 = v) (hp : pc + 3 = pc') (h : own_Ends p e below Φ (T.setTop (mkF m pc' Ls (.int v :: rest)))) : own_Ends p e below Φ (T.setTop (mkF m pc Ls rest)) := by
  subst hp hv; exact own_via (fun _ k => XS.sipush X.here hx (g := mkF m pc Ls rest) rfl hd k) h
theorem own_lconst (X : Stand p l e R s m args below meth c T locs cells slots) (hx : p.tables.exec = Jvm.exec) {pc pc' : Nat} {Ls : Array Slot} {rest : List Value} {i : Fin 2} (v : Int64) (hd : decode c.code pc = .ok (.lconst i, 1)) (hv : Int64.ofNat i = v) (hp : pc + 1 = pc') (h : own_Ends p e below Φ (T.setTop (mkF m pc' Ls (.long v :: rest)))) : own_Ends p e below Φ (T.setTop (mkF m pc Ls rest)) := by
  subst hp hv; exact own_via (fun _ k => XS.lconst X.here hx (g := mkF m pc Ls rest) rfl hd k) h
theorem own_aconst_null (X : Stand p l e R s m args below meth c T locs cells slots) (hx : p.tables.exec = Jvm.exec) {pc pc' : Nat} {Ls : Array Slot} {rest : List Value}  (hd : decode c.code pc = .ok (.aconst_null, 1))  (hp : pc + 1 = pc') (h : own_Ends p e below Φ (T.setTop (mkF m pc' Ls (.null :: rest)))) : own_Ends p e below Φ (T.setTop (mkF m pc Ls (rest))) := by
  subst hp; exact own_via (fun _ k => XS.aconstNull X.here hx (g := mkF m pc Ls (rest)) rfl hd  k) h
theorem own_iadd (X : Stand p l e R s m args below meth c T locs cells slots) (hx : p.tables.exec = Jvm.exec) {pc pc' : Nat} {Ls : Array Slot} {rest : List Value} {x y : Int32} (hd : decode c.code pc = .ok (.iadd, 1))  (hp : pc + 1 = pc') (h : own_Ends p e below Φ (T.setTop (mkF m pc' Ls (.int (x + y) :: rest)))) : own_Ends p e below Φ (T.setTop (mkF m pc Ls (.int y :: .int x :: rest))) := by
  subst hp; exact own_via (fun _ k => XS.iadd X.here hx (g := mkF m pc Ls (.int y :: .int x :: rest)) rfl hd rfl k) h
theorem own_isub (X : Stand p l e R s m args below meth c T locs cells slots) (hx : p.tables.exec = Jvm.exec) {pc pc' : Nat} {Ls : Array Slot} {rest : List Value} {x y : Int32} (hd : decode c.code pc = .ok (.isub, 1))  (hp : pc + 1 = pc') (h : own_Ends p e below Φ (T.setTop (mkF m pc' Ls (.int (x - y) :: rest)))) : own_Ends p e below Φ (T.setTop (mkF m pc Ls (.int y :: .int x :: rest))) := by
  subst hp; exact own_via (fun _ k => XS.isub X.here hx (g := mkF m pc Ls (.int y :: .int x :: rest)) rfl hd rfl k) h
theorem own_imul (X : Stand p l e R s m args below meth c T locs cells slots) (hx : p.tables.exec = Jvm.exec) {pc pc' : Nat} {Ls : Array Slot} {rest : List Value} {x y : Int32} (hd : decode c.code pc = .ok (.imul, 1))  (hp : pc + 1 = pc') (h : own_Ends p e below Φ (T.setTop (mkF m pc' Ls (.int (x * y) :: rest)))) : own_Ends p e below Φ (T.setTop (mkF m pc Ls (.int y :: .int x :: rest))) := by
  subst hp; exact own_via (fun _ k => XS.imul X.here hx (g := mkF m pc Ls (.int y :: .int x :: rest)) rfl hd rfl k) h
theorem own_iand (X : Stand p l e R s m args below meth c T locs cells slots) (hx : p.tables.exec = Jvm.exec) {pc pc' : Nat} {Ls : Array Slot} {rest : List Value} {x y : Int32} (hd : decode c.code pc = .ok (.iand, 1))  (hp : pc + 1 = pc') (h : own_Ends p e below Φ (T.setTop (mkF m pc' Ls (.int (x &&& y) :: rest)))) : own_Ends p e below Φ (T.setTop (mkF m pc Ls (.int y :: .int x :: rest))) := by
  subst hp; exact own_via (fun _ k => XS.iand X.here hx (g := mkF m pc Ls (.int y :: .int x :: rest)) rfl hd rfl k) h
theorem own_ior (X : Stand p l e R s m args below meth c T locs cells slots) (hx : p.tables.exec = Jvm.exec) {pc pc' : Nat} {Ls : Array Slot} {rest : List Value} {x y : Int32} (hd : decode c.code pc = .ok (.ior, 1))  (hp : pc + 1 = pc') (h : own_Ends p e below Φ (T.setTop (mkF m pc' Ls (.int (x ||| y) :: rest)))) : own_Ends p e below Φ (T.setTop (mkF m pc Ls (.int y :: .int x :: rest))) := by
  subst hp; exact own_via (fun _ k => XS.ior X.here hx (g := mkF m pc Ls (.int y :: .int x :: rest)) rfl hd rfl k) h
theorem own_ixor (X : Stand p l e R s m args below meth c T locs cells slots) (hx : p.tables.exec = Jvm.exec) {pc pc' : Nat} {Ls : Array Slot} {rest : List Value} {x y : Int32} (hd : decode c.code pc = .ok (.ixor, 1))  (hp : pc + 1 = pc') (h : own_Ends p e below Φ (T.setTop (mkF m pc' Ls (.int (x ^^^ y) :: rest)))) : own_Ends p e below Φ (T.setTop (mkF m pc Ls (.int y :: .int x :: rest))) := by
  subst hp; exact own_via (fun _ k => XS.ixor X.here hx (g := mkF m pc Ls (.int y :: .int x :: rest)) rfl hd rfl k) h
theorem own_ishl (X : Stand p l e R s m args below meth c T locs cells slots) (hx : p.tables.exec = Jvm.exec) {pc pc' : Nat} {Ls : Array Slot} {rest : List Value} {x y : Int32} (hd : decode c.code pc = .ok (.ishl, 1))  (hp : pc + 1 = pc') (h : own_Ends p e below Φ (T.setTop (mkF m pc' Ls (.int (x <<< (y &&& 31)) :: rest)))) : own_Ends p e below Φ (T.setTop (mkF m pc Ls (.int y :: .int x :: rest))) := by
  subst hp; exact own_via (fun _ k => XS.ishl X.here hx (g := mkF m pc Ls (.int y :: .int x :: rest)) rfl hd rfl k) h
theorem own_ishr (X : Stand p l e R s m args below meth c T locs cells slots) (hx : p.tables.exec = Jvm.exec) {pc pc' : Nat} {Ls : Array Slot} {rest : List Value} {x y : Int32} (hd : decode c.code pc = .ok (.ishr, 1))  (hp : pc + 1 = pc') (h : own_Ends p e below Φ (T.setTop (mkF m pc' Ls (.int (x >>> (y &&& 31)) :: rest)))) : own_Ends p e below Φ (T.setTop (mkF m pc Ls (.int y :: .int x :: rest))) := by
  subst hp; exact own_via (fun _ k => XS.ishr X.here hx (g := mkF m pc Ls (.int y :: .int x :: rest)) rfl hd rfl k) h
theorem own_iushr (X : Stand p l e R s m args below meth c T locs cells slots) (hx : p.tables.exec = Jvm.exec) {pc pc' : Nat} {Ls : Array Slot} {rest : List Value} {x y : Int32} (hd : decode c.code pc = .ok (.iushr, 1))  (hp : pc + 1 = pc') (h : own_Ends p e below Φ (T.setTop (mkF m pc' Ls (.int (own_ushr x y) :: rest)))) : own_Ends p e below Φ (T.setTop (mkF m pc Ls (.int y :: .int x :: rest))) := by
  subst hp; exact own_via (fun _ k => XS.iushr X.here hx (g := mkF m pc Ls (.int y :: .int x :: rest)) rfl hd rfl k) h
theorem own_ladd (X : Stand p l e R s m args below meth c T locs cells slots) (hx : p.tables.exec = Jvm.exec) {pc pc' : Nat} {Ls : Array Slot} {rest : List Value} {x y : Int64} (hd : decode c.code pc = .ok (.ladd, 1))  (hp : pc + 1 = pc') (h : own_Ends p e below Φ (T.setTop (mkF m pc' Ls (.long (x + y) :: rest)))) : own_Ends p e below Φ (T.setTop (mkF m pc Ls (.long y :: .long x :: rest))) := by
  subst hp; exact own_via (fun _ k => XS.ladd X.here hx (g := mkF m pc Ls (.long y :: .long x :: rest)) rfl hd rfl k) h
theorem own_lsub (X : Stand p l e R s m args below meth c T locs cells slots) (hx : p.tables.exec = Jvm.exec) {pc pc' : Nat} {Ls : Array Slot} {rest : List Value} {x y : Int64} (hd : decode c.code pc = .ok (.lsub, 1))  (hp : pc + 1 = pc') (h : own_Ends p e below Φ (T.setTop (mkF m pc' Ls (.long (x - y) :: rest)))) : own_Ends p e below Φ (T.setTop (mkF m pc Ls (.long y :: .long x :: rest))) := by
  subst hp; exact own_via (fun _ k => XS.lsub X.here hx (g := mkF m pc Ls (.long y :: .long x :: rest)) rfl hd rfl k) h
theorem own_lmul (X : Stand p l e R s m args below meth c T locs cells slots) (hx : p.tables.exec = Jvm.exec) {pc pc' : Nat} {Ls : Array Slot} {rest : List Value} {x y : Int64} (hd : decode c.code pc = .ok (.lmul, 1))  (hp : pc + 1 = pc') (h : own_Ends p e below Φ (T.setTop (mkF m pc' Ls (.long (x * y) :: rest)))) : own_Ends p e below Φ (T.setTop (mkF m pc Ls (.long y :: .long x :: rest))) := by
  subst hp; exact own_via (fun _ k => XS.lmul X.here hx (g := mkF m pc Ls (.long y :: .long x :: rest)) rfl hd rfl k) h
theorem own_land (X : Stand p l e R s m args below meth c T locs cells slots) (hx : p.tables.exec = Jvm.exec) {pc pc' : Nat} {Ls : Array Slot} {rest : List Value} {x y : Int64} (hd : decode c.code pc = .ok (.land, 1))  (hp : pc + 1 = pc') (h : own_Ends p e below Φ (T.setTop (mkF m pc' Ls (.long (x &&& y) :: rest)))) : own_Ends p e below Φ (T.setTop (mkF m pc Ls (.long y :: .long x :: rest))) := by
  subst hp; exact own_via (fun _ k => XS.land X.here hx (g := mkF m pc Ls (.long y :: .long x :: rest)) rfl hd rfl k) h
theorem own_lor (X : Stand p l e R s m args below meth c T locs cells slots) (hx : p.tables.exec = Jvm.exec) {pc pc' : Nat} {Ls : Array Slot} {rest : List Value} {x y : Int64} (hd : decode c.code pc = .ok (.lor, 1))  (hp : pc + 1 = pc') (h : own_Ends p e below Φ (T.setTop (mkF m pc' Ls (.long (x ||| y) :: rest)))) : own_Ends p e below Φ (T.setTop (mkF m pc Ls (.long y :: .long x :: rest))) := by
  subst hp; exact own_via (fun _ k => XS.lor X.here hx (g := mkF m pc Ls (.long y :: .long x :: rest)) rfl hd rfl k) h
theorem own_lxor (X : Stand p l e R s m args below meth c T locs cells slots) (hx : p.tables.exec = Jvm.exec) {pc pc' : Nat} {Ls : Array Slot} {rest : List Value} {x y : Int64} (hd : decode c.code pc = .ok (.lxor, 1))  (hp : pc + 1 = pc') (h : own_Ends p e below Φ (T.setTop (mkF m pc' Ls (.long (x ^^^ y) :: rest)))) : own_Ends p e below Φ (T.setTop (mkF m pc Ls (.long y :: .long x :: rest))) := by
  subst hp; exact own_via (fun _ k => XS.lxor X.here hx (g := mkF m pc Ls (.long y :: .long x :: rest)) rfl hd rfl k) h
theorem own_lshl (X : Stand p l e R s m args below meth c T locs cells slots) (hx : p.tables.exec = Jvm.exec) {pc pc' : Nat} {Ls : Array Slot} {rest : List Value} {x : Int64} {y : Int32} (hd : decode c.code pc = .ok (.lshl, 1))  (hp : pc + 1 = pc') (h : own_Ends p e below Φ (T.setTop (mkF m pc' Ls (.long (x <<< (y &&& 0x3f).toInt64) :: rest)))) : own_Ends p e below Φ (T.setTop (mkF m pc Ls (.int y :: .long x :: rest))) := by
  subst hp; exact own_via (fun _ k => XS.lshl X.here hx (g := mkF m pc Ls (.int y :: .long x :: rest)) rfl hd rfl k) h
theorem own_lshr (X : Stand p l e R s m args below meth c T locs cells slots) (hx : p.tables.exec = Jvm.exec) {pc pc' : Nat} {Ls : Array Slot} {rest : List Value} {x : Int64} {y : Int32} (hd : decode c.code pc = .ok (.lshr, 1))  (hp : pc + 1 = pc') (h : own_Ends p e below Φ (T.setTop (mkF m pc' Ls (.long (x >>> (y &&& 0x3f).toInt64) :: rest)))) : own_Ends p e below Φ (T.setTop (mkF m pc Ls (.int y :: .long x :: rest))) := by
  subst hp; exact own_via (fun _ k => XS.lshr X.here hx (g := mkF m pc Ls (.int y :: .long x :: rest)) rfl hd rfl k) h
theorem own_lushr (X : Stand p l e R s m args below meth c T locs cells slots) (hx : p.tables.exec = Jvm.exec) {pc pc' : Nat} {Ls : Array Slot} {rest : List Value} {x : Int64} {y : Int32} (hd : decode c.code pc = .ok (.lushr, 1))  (hp : pc + 1 = pc') (h : own_Ends p e below Φ (T.setTop (mkF m pc' Ls (.long (own_ushrL x y) :: rest)))) : own_Ends p e below Φ (T.setTop (mkF m pc Ls (.int y :: .long x :: rest))) := by
  subst hp; exact own_via (fun _ k => XS.lushr X.here hx (g := mkF m pc Ls (.int y :: .long x :: rest)) rfl hd rfl k) h
theorem own_idiv (X : Stand p l e R s m args below meth c T locs cells slots) (hx : p.tables.exec = Jvm.exec) {pc pc' : Nat} {Ls : Array Slot} {rest : List Value} {x y : Int32} (hd : decode c.code pc = .ok (.idiv, 1)) (hy : y ≠ 0) (hp : pc + 1 = pc') (h : own_Ends p e below Φ (T.setTop (mkF m pc' Ls (.int (x / y) :: rest)))) : own_Ends p e below Φ (T.setTop (mkF m pc Ls (.int y :: .int x :: rest))) := by
  subst hp; exact own_via (fun _ k => XS.idiv X.here hx (g := mkF m pc Ls (.int y :: .int x :: rest)) rfl hd rfl hy k) h
theorem own_irem (X : Stand p l e R s m args below meth c T locs cells slots) (hx : p.tables.exec = Jvm.exec) {pc pc' : Nat} {Ls : Array Slot} {rest : List Value} {x y : Int32} (hd : decode c.code pc = .ok (.irem, 1)) (hy : y ≠ 0) (hp : pc + 1 = pc') (h : own_Ends p e below Φ (T.setTop (mkF m pc' Ls (.int (x % y) :: rest)))) : own_Ends p e below Φ (T.setTop (mkF m pc Ls (.int y :: .int x :: rest))) := by
  subst hp; exact own_via (fun _ k => iremM X hx (g := mkF m pc Ls (.int y :: .int x :: rest)) rfl hd rfl hy k) h
theorem own_ineg (X : Stand p l e R s m args below meth c T locs cells slots) (hx : p.tables.exec = Jvm.exec) {pc pc' : Nat} {Ls : Array Slot} {rest : List Value} {x : Int32} (hd : decode c.code pc = .ok (.ineg, 1))  (hp : pc + 1 = pc') (h : own_Ends p e below Φ (T.setTop (mkF m pc' Ls (.int (-x) :: rest)))) : own_Ends p e below Φ (T.setTop (mkF m pc Ls (.int x :: rest))) := by
  subst hp; exact own_via (fun _ k => XS.ineg X.here hx (g := mkF m pc Ls (.int x :: rest)) rfl hd rfl k) h
theorem own_lneg (X : Stand p l e R s m args below meth c T locs cells slots) (hx : p.tables.exec = Jvm.exec) {pc pc' : Nat} {Ls : Array Slot} {rest : List Value} {x : Int64} (hd : decode c.code pc = .ok (.lneg, 1))  (hp : pc + 1 = pc') (h : own_Ends p e below Φ (T.setTop (mkF m pc' Ls (.long (-x) :: rest)))) : own_Ends p e below Φ (T.setTop (mkF m pc Ls (.long x :: rest))) := by
  subst hp; exact own_via (fun _ k => XS.lneg X.here hx (g := mkF m pc Ls (.long x :: rest)) rfl hd rfl k) h
theorem own_i2l (X : Stand p l e R s m args below meth c T locs cells slots) (hx : p.tables.exec = Jvm.exec) {pc pc' : Nat} {Ls : Array Slot} {rest : List Value} {x : Int32} (hd : decode c.code pc = .ok (.i2l, 1))  (hp : pc + 1 = pc') (h : own_Ends p e below Φ (T.setTop (mkF m pc' Ls (.long (x.toInt64) :: rest)))) : own_Ends p e below Φ (T.setTop (mkF m pc Ls (.int x :: rest))) := by
  subst hp; exact own_via (fun _ k => XS.i2l X.here hx (g := mkF m pc Ls (.int x :: rest)) rfl hd rfl k) h
theorem own_l2i (X : Stand p l e R s m args below meth c T locs cells slots) (hx : p.tables.exec = Jvm.exec) {pc pc' : Nat} {Ls : Array Slot} {rest : List Value} {x : Int64} (hd : decode c.code pc = .ok (.l2i, 1))  (hp : pc + 1 = pc') (h : own_Ends p e below Φ (T.setTop (mkF m pc' Ls (.int (x.toInt32) :: rest)))) : own_Ends p e below Φ (T.setTop (mkF m pc Ls (.long x :: rest))) := by
  subst hp; exact own_via (fun _ k => XS.l2i X.here hx (g := mkF m pc Ls (.long x :: rest)) rfl hd rfl k) h
theorem own_i2b (X : Stand p l e R s m args below meth c T locs cells slots) (hx : p.tables.exec = Jvm.exec) {pc pc' : Nat} {Ls : Array Slot} {rest : List Value} {x : Int32} (hd : decode c.code pc = .ok (.i2b, 1))  (hp : pc + 1 = pc') (h : own_Ends p e below Φ (T.setTop (mkF m pc' Ls (.int (x.toInt8.toInt32) :: rest)))) : own_Ends p e below Φ (T.setTop (mkF m pc Ls (.int x :: rest))) := by
  subst hp; exact own_via (fun _ k => XS.i2b X.here hx (g := mkF m pc Ls (.int x :: rest)) rfl hd rfl k) h
theorem own_i2c (X : Stand p l e R s m args below meth c T locs cells slots) (hx : p.tables.exec = Jvm.exec) {pc pc' : Nat} {Ls : Array Slot} {rest : List Value} {x : Int32} (hd : decode c.code pc = .ok (.i2c, 1))  (hp : pc + 1 = pc') (h : own_Ends p e below Φ (T.setTop (mkF m pc' Ls (.int (x.toUInt32.toUInt16.toUInt32.toInt32) :: rest)))) : own_Ends p e below Φ (T.setTop (mkF m pc Ls (.int x :: rest))) := by
  subst hp; exact own_via (fun _ k => XS.i2c X.here hx (g := mkF m pc Ls (.int x :: rest)) rfl hd rfl k) h
theorem own_i2s (X : Stand p l e R s m args below meth c T locs cells slots) (hx : p.tables.exec = Jvm.exec) {pc pc' : Nat} {Ls : Array Slot} {rest : List Value} {x : Int32} (hd : decode c.code pc = .ok (.i2s, 1))  (hp : pc + 1 = pc') (h : own_Ends p e below Φ (T.setTop (mkF m pc' Ls (.int (x.toInt16.toInt32) :: rest)))) : own_Ends p e below Φ (T.setTop (mkF m pc Ls (.int x :: rest))) := by
  subst hp; exact own_via (fun _ k => XS.i2s X.here hx (g := mkF m pc Ls (.int x :: rest)) rfl hd rfl k) h
theorem own_lcmp (X : Stand p l e R s m args below meth c T locs cells slots) (hx : p.tables.exec = Jvm.exec) {pc pc' : Nat} {Ls : Array Slot} {rest : List Value} {x y : Int64} (hd : decode c.code pc = .ok (.lcmp, 1))  (hp : pc + 1 = pc') (h : own_Ends p e below Φ (T.setTop (mkF m pc' Ls (.int (lcmpW x y) :: rest)))) : own_Ends p e below Φ (T.setTop (mkF m pc Ls (.long y :: .long x :: rest))) := by
  subst hp; exact own_via (fun _ k => XS.lcmp X.here hx (g := mkF m pc Ls (.long y :: .long x :: rest)) rfl hd rfl k) h
theorem own_dup (X : Stand p l e R s m args below meth c T locs cells slots) (hx : p.tables.exec = Jvm.exec) {pc pc' : Nat} {Ls : Array Slot} {rest : List Value} {x : Value} (hd : decode c.code pc = .ok (.dup, 1)) (hc : x.category = 1) (hp : pc + 1 = pc') (h : own_Ends p e below Φ (T.setTop (mkF m pc' Ls (x :: x :: rest)))) : own_Ends p e below Φ (T.setTop (mkF m pc Ls (x :: rest))) := by
  subst hp; exact own_via (fun _ k => XS.dup X.here hx (g := mkF m pc Ls (x :: rest)) rfl hd rfl hc k) h
theorem own_pop (X : Stand p l e R s m args below meth c T locs cells slots) (hx : p.tables.exec = Jvm.exec) {pc pc' : Nat} {Ls : Array Slot} {rest : List Value} {x : Value} (hd : decode c.code pc = .ok (.pop, 1)) (hc : x.category = 1) (hp : pc + 1 = pc') (h : own_Ends p e below Φ (T.setTop (mkF m pc' Ls (rest)))) : own_Ends p e below Φ (T.setTop (mkF m pc Ls (x :: rest))) := by
  subst hp; exact own_via (fun _ k => XS.pop X.here hx (g := mkF m pc Ls (x :: rest)) rfl hd rfl hc k) h
theorem own_dup_x1 (X : Stand p l e R s m args below meth c T locs cells slots) (hx : p.tables.exec = Jvm.exec) {pc pc' : Nat} {Ls : Array Slot} {rest : List Value} {x y : Value} (hd : decode c.code pc = .ok (.dup_x1, 1)) (hc : x.category = 1) (hc' : y.category = 1) (hp : pc + 1 = pc') (h : own_Ends p e below Φ (T.setTop (mkF m pc' Ls (x :: y :: x :: rest)))) : own_Ends p e below Φ (T.setTop (mkF m pc Ls (x :: y :: rest))) := by
  subst hp; exact own_via (fun _ k => XS.dupX1 X.here hx (g := mkF m pc Ls (x :: y :: rest)) rfl hd rfl hc hc' k) h
theorem own_iinc (X : Stand p l e R s m args below meth c T locs cells slots) (hx : p.tables.exec = Jvm.exec) {pc pc' : Nat} {Ls : Array Slot} {rest : List Value} {k : Nat} {cst : Int} {x : Int32} (Ls' : Array Slot) (hd : decode c.code pc = .ok (.iinc k cst, 3)) (hl : Ls[k]? = some (.val (.int x))) (hl' : storeLocals Ls k (.int (x + Int32.ofInt cst)) = some Ls') (hp : pc + 3 = pc') (h : own_Ends p e below Φ (T.setTop (mkF m pc' Ls' rest))) : own_Ends p e below Φ (T.setTop (mkF m pc Ls rest)) := by
  subst hp; exact own_via (fun _ k => XS.iinc X.here hx (g := mkF m pc Ls rest) rfl hd hl hl' k) h
theorem own_goto (X : Stand p l e R s m args below meth c T locs cells slots) (hx : p.tables.exec = Jvm.exec) {pc pc' : Nat} {Ls : Array Slot} {rest : List Value} {o : Int} (hd : decode c.code pc = .ok (.goto o, 3)) (ho : 0 ≤ (pc : Int) + o) (hp : ((pc : Int) + o).toNat = pc') (h : own_Ends p e below Φ (T.setTop (mkF m pc' Ls rest))) : own_Ends p e below Φ (T.setTop (mkF m pc Ls rest)) := own_via (fun _ k => XS.goto X.here hx (g := mkF m pc Ls rest) rfl (pc0 := pc) (pc' := pc') rfl hd ho hp k) h
theorem own_icmp_eq (X : Stand p l e R s m args below meth c T locs cells slots) (hx : p.tables.exec = Jvm.exec) {pc pcT pcF : Nat} {Ls : Array Slot} {rest : List Value} {x y : Int32} {o : Int} (hd : decode c.code pc = .ok (.if_icmp .eq o, 3)) (ho : 0 ≤ (pc : Int) + o) (hT : ((pc : Int) + o).toNat = pcT) (hF : pc + 3 = pcF) (kT : x = y → own_Ends p e below Φ (T.setTop (mkF m pcT Ls rest))) (kF : ¬ x = y → own_Ends p e below Φ (T.setTop (mkF m pcF Ls rest))) : own_Ends p e below Φ (T.setTop (mkF m pc Ls (.int y :: .int x :: rest))) := by
  subst hF; by_cases q : x = y
  · exact own_via (fun _ k => XS.icmpYes X.here hx (g := mkF m pc Ls (.int y :: .int x :: rest)) rfl (pc0 := pc) (pc' := pcT) rfl hd rfl (teq q).1 ho hT k) (kT q)
  · exact own_via (fun _ k => XS.icmpNo X.here hx (g := mkF m pc Ls (.int y :: .int x :: rest)) rfl hd rfl (feq q).1 k) (kF q)
theorem own_if_eq (X : Stand p l e R s m args below meth c T locs cells slots) (hx : p.tables.exec = Jvm.exec) {pc pcT pcF : Nat} {Ls : Array Slot} {rest : List Value} {x : Int32} {o : Int} (hd : decode c.code pc = .ok (.ifCond .eq o, 3)) (ho : 0 ≤ (pc : Int) + o) (hT : ((pc : Int) + o).toNat = pcT) (hF : pc + 3 = pcF) (kT : x = (0 : Int32) → own_Ends p e below Φ (T.setTop (mkF m pcT Ls rest))) (kF : ¬ x = (0 : Int32) → own_Ends p e below Φ (T.setTop (mkF m pcF Ls rest))) : own_Ends p e below Φ (T.setTop (mkF m pc Ls (.int x :: rest))) := by
  subst hF; by_cases q : x = (0 : Int32)
  · exact own_via (fun _ k => XS.ifYes X.here hx (g := mkF m pc Ls (.int x :: rest)) rfl (pc0 := pc) (pc' := pcT) rfl hd rfl ((if0 _ _).trans (teq q).1) ho hT k) (kT q)
  · exact own_via (fun _ k => XS.ifNo X.here hx (g := mkF m pc Ls (.int x :: rest)) rfl hd rfl ((if0 _ _).trans (feq q).1) k) (kF q)
theorem own_icmp_ne (X : Stand p l e R s m args below meth c T locs cells slots) (hx : p.tables.exec = Jvm.exec) {pc pcT pcF : Nat} {Ls : Array Slot} {rest : List Value} {x y : Int32} {o : Int} (hd : decode c.code pc = .ok (.if_icmp .ne o, 3)) (ho : 0 ≤ (pc : Int) + o) (hT : ((pc : Int) + o).toNat = pcT) (hF : pc + 3 = pcF) (kT : ¬ x = y → own_Ends p e below Φ (T.setTop (mkF m pcT Ls rest))) (kF : x = y → own_Ends p e below Φ (T.setTop (mkF m pcF Ls rest))) : own_Ends p e below Φ (T.setTop (mkF m pc Ls (.int y :: .int x :: rest))) := by
  subst hF; by_cases q : x = y
  · exact own_via (fun _ k => XS.icmpNo X.here hx (g := mkF m pc Ls (.int y :: .int x :: rest)) rfl hd rfl (teq q).2 k) (kF q)
  · exact own_via (fun _ k => XS.icmpYes X.here hx (g := mkF m pc Ls (.int y :: .int x :: rest)) rfl (pc0 := pc) (pc' := pcT) rfl hd rfl (feq q).2 ho hT k) (kT q)
theorem own_if_ne (X : Stand p l e R s m args below meth c T locs cells slots) (hx : p.tables.exec = Jvm.exec) {pc pcT pcF : Nat} {Ls : Array Slot} {rest : List Value} {x : Int32} {o : Int} (hd : decode c.code pc = .ok (.ifCond .ne o, 3)) (ho : 0 ≤ (pc : Int) + o) (hT : ((pc : Int) + o).toNat = pcT) (hF : pc + 3 = pcF) (kT : ¬ x = (0 : Int32) → own_Ends p e below Φ (T.setTop (mkF m pcT Ls rest))) (kF : x = (0 : Int32) → own_Ends p e below Φ (T.setTop (mkF m pcF Ls rest))) : own_Ends p e below Φ (T.setTop (mkF m pc Ls (.int x :: rest))) := by
  subst hF; by_cases q : x = (0 : Int32)
  · exact own_via (fun _ k => XS.ifNo X.here hx (g := mkF m pc Ls (.int x :: rest)) rfl hd rfl ((if0 _ _).trans (teq q).2) k) (kF q)
  · exact own_via (fun _ k => XS.ifYes X.here hx (g := mkF m pc Ls (.int x :: rest)) rfl (pc0 := pc) (pc' := pcT) rfl hd rfl ((if0 _ _).trans (feq q).2) ho hT k) (kT q)
theorem own_icmp_lt (X : Stand p l e R s m args below meth c T locs cells slots) (hx : p.tables.exec = Jvm.exec) {pc pcT pcF : Nat} {Ls : Array Slot} {rest : List Value} {x y : Int32} {o : Int} (hd : decode c.code pc = .ok (.if_icmp .lt o, 3)) (ho : 0 ≤ (pc : Int) + o) (hT : ((pc : Int) + o).toNat = pcT) (hF : pc + 3 = pcF) (kT : x < y → own_Ends p e below Φ (T.setTop (mkF m pcT Ls rest))) (kF : ¬ x < y → own_Ends p e below Φ (T.setTop (mkF m pcF Ls rest))) : own_Ends p e below Φ (T.setTop (mkF m pc Ls (.int y :: .int x :: rest))) := by
  subst hF; by_cases q : x < y
  · exact own_via (fun _ k => XS.icmpYes X.here hx (g := mkF m pc Ls (.int y :: .int x :: rest)) rfl (pc0 := pc) (pc' := pcT) rfl hd rfl (tlt q).1 ho hT k) (kT q)
  · exact own_via (fun _ k => XS.icmpNo X.here hx (g := mkF m pc Ls (.int y :: .int x :: rest)) rfl hd rfl (flt q).1 k) (kF q)
theorem own_if_lt (X : Stand p l e R s m args below meth c T locs cells slots) (hx : p.tables.exec = Jvm.exec) {pc pcT pcF : Nat} {Ls : Array Slot} {rest : List Value} {x : Int32} {o : Int} (hd : decode c.code pc = .ok (.ifCond .lt o, 3)) (ho : 0 ≤ (pc : Int) + o) (hT : ((pc : Int) + o).toNat = pcT) (hF : pc + 3 = pcF) (kT : x < (0 : Int32) → own_Ends p e below Φ (T.setTop (mkF m pcT Ls rest))) (kF : ¬ x < (0 : Int32) → own_Ends p e below Φ (T.setTop (mkF m pcF Ls rest))) : own_Ends p e below Φ (T.setTop (mkF m pc Ls (.int x :: rest))) := by
  subst hF; by_cases q : x < (0 : Int32)
  · exact own_via (fun _ k => XS.ifYes X.here hx (g := mkF m pc Ls (.int x :: rest)) rfl (pc0 := pc) (pc' := pcT) rfl hd rfl ((if0 _ _).trans (tlt q).1) ho hT k) (kT q)
  · exact own_via (fun _ k => XS.ifNo X.here hx (g := mkF m pc Ls (.int x :: rest)) rfl hd rfl ((if0 _ _).trans (flt q).1) k) (kF q)
theorem own_icmp_ge (X : Stand p l e R s m args below meth c T locs cells slots) (hx : p.tables.exec = Jvm.exec) {pc pcT pcF : Nat} {Ls : Array Slot} {rest : List Value} {x y : Int32} {o : Int} (hd : decode c.code pc = .ok (.if_icmp .ge o, 3)) (ho : 0 ≤ (pc : Int) + o) (hT : ((pc : Int) + o).toNat = pcT) (hF : pc + 3 = pcF) (kT : ¬ x < y → own_Ends p e below Φ (T.setTop (mkF m pcT Ls rest))) (kF : x < y → own_Ends p e below Φ (T.setTop (mkF m pcF Ls rest))) : own_Ends p e below Φ (T.setTop (mkF m pc Ls (.int y :: .int x :: rest))) := by
  subst hF; by_cases q : x < y
  · exact own_via (fun _ k => XS.icmpNo X.here hx (g := mkF m pc Ls (.int y :: .int x :: rest)) rfl hd rfl (tlt q).2.1 k) (kF q)
  · exact own_via (fun _ k => XS.icmpYes X.here hx (g := mkF m pc Ls (.int y :: .int x :: rest)) rfl (pc0 := pc) (pc' := pcT) rfl hd rfl (flt q).2.1 ho hT k) (kT q)
theorem own_if_ge (X : Stand p l e R s m args below meth c T locs cells slots) (hx : p.tables.exec = Jvm.exec) {pc pcT pcF : Nat} {Ls : Array Slot} {rest : List Value} {x : Int32} {o : Int} (hd : decode c.code pc = .ok (.ifCond .ge o, 3)) (ho : 0 ≤ (pc : Int) + o) (hT : ((pc : Int) + o).toNat = pcT) (hF : pc + 3 = pcF) (kT : ¬ x < (0 : Int32) → own_Ends p e below Φ (T.setTop (mkF m pcT Ls rest))) (kF : x < (0 : Int32) → own_Ends p e below Φ (T.setTop (mkF m pcF Ls rest))) : own_Ends p e below Φ (T.setTop (mkF m pc Ls (.int x :: rest))) := by
  subst hF; by_cases q : x < (0 : Int32)
  · exact own_via (fun _ k => XS.ifNo X.here hx (g := mkF m pc Ls (.int x :: rest)) rfl hd rfl ((if0 _ _).trans (tlt q).2.1) k) (kF q)
  · exact own_via (fun _ k => XS.ifYes X.here hx (g := mkF m pc Ls (.int x :: rest)) rfl (pc0 := pc) (pc' := pcT) rfl hd rfl ((if0 _ _).trans (flt q).2.1) ho hT k) (kT q)
theorem own_icmp_gt (X : Stand p l e R s m args below meth c T locs cells slots) (hx : p.tables.exec = Jvm.exec) {pc pcT pcF : Nat} {Ls : Array Slot} {rest : List Value} {x y : Int32} {o : Int} (hd : decode c.code pc = .ok (.if_icmp .gt o, 3)) (ho : 0 ≤ (pc : Int) + o) (hT : ((pc : Int) + o).toNat = pcT) (hF : pc + 3 = pcF) (kT : y < x → own_Ends p e below Φ (T.setTop (mkF m pcT Ls rest))) (kF : ¬ y < x → own_Ends p e below Φ (T.setTop (mkF m pcF Ls rest))) : own_Ends p e below Φ (T.setTop (mkF m pc Ls (.int y :: .int x :: rest))) := by
  subst hF; by_cases q : y < x
  · exact own_via (fun _ k => XS.icmpYes X.here hx (g := mkF m pc Ls (.int y :: .int x :: rest)) rfl (pc0 := pc) (pc' := pcT) rfl hd rfl (tlt q).2.2.1 ho hT k) (kT q)
  · exact own_via (fun _ k => XS.icmpNo X.here hx (g := mkF m pc Ls (.int y :: .int x :: rest)) rfl hd rfl (flt q).2.2.1 k) (kF q)
theorem own_if_gt (X : Stand p l e R s m args below meth c T locs cells slots) (hx : p.tables.exec = Jvm.exec) {pc pcT pcF : Nat} {Ls : Array Slot} {rest : List Value} {x : Int32} {o : Int} (hd : decode c.code pc = .ok (.ifCond .gt o, 3)) (ho : 0 ≤ (pc : Int) + o) (hT : ((pc : Int) + o).toNat = pcT) (hF : pc + 3 = pcF) (kT : (0 : Int32) < x → own_Ends p e below Φ (T.setTop (mkF m pcT Ls rest))) (kF : ¬ (0 : Int32) < x → own_Ends p e below Φ (T.setTop (mkF m pcF Ls rest))) : own_Ends p e below Φ (T.setTop (mkF m pc Ls (.int x :: rest))) := by
  subst hF; by_cases q : (0 : Int32) < x
  · exact own_via (fun _ k => XS.ifYes X.here hx (g := mkF m pc Ls (.int x :: rest)) rfl (pc0 := pc) (pc' := pcT) rfl hd rfl ((if0 _ _).trans (tlt q).2.2.1) ho hT k) (kT q)
  · exact own_via (fun _ k => XS.ifNo X.here hx (g := mkF m pc Ls (.int x :: rest)) rfl hd rfl ((if0 _ _).trans (flt q).2.2.1) k) (kF q)
theorem own_icmp_le (X : Stand p l e R s m args below meth c T locs cells slots) (hx : p.tables.exec = Jvm.exec) {pc pcT pcF : Nat} {Ls : Array Slot} {rest : List Value} {x y : Int32} {o : Int} (hd : decode c.code pc = .ok (.if_icmp .le o, 3)) (ho : 0 ≤ (pc : Int) + o) (hT : ((pc : Int) + o).toNat = pcT) (hF : pc + 3 = pcF) (kT : ¬ y < x → own_Ends p e below Φ (T.setTop (mkF m pcT Ls rest))) (kF : y < x → own_Ends p e below Φ (T.setTop (mkF m pcF Ls rest))) : own_Ends p e below Φ (T.setTop (mkF m pc Ls (.int y :: .int x :: rest))) := by
  subst hF; by_cases q : y < x
  · exact own_via (fun _ k => XS.icmpNo X.here hx (g := mkF m pc Ls (.int y :: .int x :: rest)) rfl hd rfl (tlt q).2.2.2 k) (kF q)
  · exact own_via (fun _ k => XS.icmpYes X.here hx (g := mkF m pc Ls (.int y :: .int x :: rest)) rfl (pc0 := pc) (pc' := pcT) rfl hd rfl (flt q).2.2.2 ho hT k) (kT q)
theorem own_if_le (X : Stand p l e R s m args below meth c T locs cells slots) (hx : p.tables.exec = Jvm.exec) {pc pcT pcF : Nat} {Ls : Array Slot} {rest : List Value} {x : Int32} {o : Int} (hd : decode c.code pc = .ok (.ifCond .le o, 3)) (ho : 0 ≤ (pc : Int) + o) (hT : ((pc : Int) + o).toNat = pcT) (hF : pc + 3 = pcF) (kT : ¬ (0 : Int32) < x → own_Ends p e below Φ (T.setTop (mkF m pcT Ls rest))) (kF : (0 : Int32) < x → own_Ends p e below Φ (T.setTop (mkF m pcF Ls rest))) : own_Ends p e below Φ (T.setTop (mkF m pc Ls (.int x :: rest))) := by
  subst hF; by_cases q : (0 : Int32) < x
  · exact own_via (fun _ k => XS.ifNo X.here hx (g := mkF m pc Ls (.int x :: rest)) rfl hd rfl ((if0 _ _).trans (tlt q).2.2.2) k) (kF q)
  · exact own_via (fun _ k => XS.ifYes X.here hx (g := mkF m pc Ls (.int x :: rest)) rfl (pc0 := pc) (pc' := pcT) rfl hd rfl ((if0 _ _).trans (flt q).2.2.2) ho hT k) (kT q)
theorem own_icmpT (X : Stand p l e R s m args below meth c T locs cells slots) (hx : p.tables.exec = Jvm.exec) {pc pcT : Nat} {Ls : Array Slot} {rest : List Value} {x y : Int32} {cd : ClassFile.Cond} {o : Int} (hd : decode c.code pc = .ok (.if_icmp cd o, 3)) (ho : 0 ≤ (pc : Int) + o) (hT : ((pc : Int) + o).toNat = pcT) (q : if_icmp.holds cd x y = true) (h : own_Ends p e below Φ (T.setTop (mkF m pcT Ls rest))) : own_Ends p e below Φ (T.setTop (mkF m pc Ls (.int y :: .int x :: rest))) :=
  own_via (fun _ k => XS.icmpYes X.here hx (g := mkF m pc Ls (.int y :: .int x :: rest)) rfl (pc0 := pc) (pc' := pcT) rfl hd rfl q ho hT k) h
theorem own_icmpF (X : Stand p l e R s m args below meth c T locs cells slots) (hx : p.tables.exec = Jvm.exec) {pc pcF : Nat} {Ls : Array Slot} {rest : List Value} {x y : Int32} {cd : ClassFile.Cond} {o : Int} (hd : decode c.code pc = .ok (.if_icmp cd o, 3)) (hF : pc + 3 = pcF) (q : if_icmp.holds cd x y = false) (h : own_Ends p e below Φ (T.setTop (mkF m pcF Ls rest))) : own_Ends p e below Φ (T.setTop (mkF m pc Ls (.int y :: .int x :: rest))) := by
  subst hF; exact own_via (fun _ k => XS.icmpNo X.here hx (g := mkF m pc Ls (.int y :: .int x :: rest)) rfl hd rfl q k) h
theorem own_ifT (X : Stand p l e R s m args below meth c T locs cells slots) (hx : p.tables.exec = Jvm.exec) {pc pcT : Nat} {Ls : Array Slot} {rest : List Value} {x : Int32} {cd : ClassFile.Cond} {o : Int} (hd : decode c.code pc = .ok (.ifCond cd o, 3)) (ho : 0 ≤ (pc : Int) + o) (hT : ((pc : Int) + o).toNat = pcT) (q : if_icmp.holds cd x 0 = true) (h : own_Ends p e below Φ (T.setTop (mkF m pcT Ls rest))) : own_Ends p e below Φ (T.setTop (mkF m pc Ls (.int x :: rest))) :=
  own_via (fun _ k => XS.ifYes X.here hx (g := mkF m pc Ls (.int x :: rest)) rfl (pc0 := pc) (pc' := pcT) rfl hd rfl ((if0 _ _).trans q) ho hT k) h
theorem own_ifF (X : Stand p l e R s m args below meth c T locs cells slots) (hx : p.tables.exec = Jvm.exec) {pc pcF : Nat} {Ls : Array Slot} {rest : List Value} {x : Int32} {cd : ClassFile.Cond} {o : Int} (hd : decode c.code pc = .ok (.ifCond cd o, 3)) (hF : pc + 3 = pcF) (q : if_icmp.holds cd x 0 = false) (h : own_Ends p e below Φ (T.setTop (mkF m pcF Ls rest))) : own_Ends p e below Φ (T.setTop (mkF m pc Ls (.int x :: rest))) := by
  subst hF; exact own_via (fun _ k => XS.ifNo X.here hx (g := mkF m pc Ls (.int x :: rest)) rfl hd rfl ((if0 _ _).trans q) k) h
theorem own_ifnullT (X : Stand p l e R s m args below meth c T locs cells slots) (hx : p.tables.exec = Jvm.exec) {pc pcT : Nat} {Ls : Array Slot} {rest : List Value} {o : Int} (hd : decode c.code pc = .ok (.ifnull o, 3)) (ho : 0 ≤ (pc : Int) + o) (hT : ((pc : Int) + o).toNat = pcT) (h : own_Ends p e below Φ (T.setTop (mkF m pcT Ls rest))) : own_Ends p e below Φ (T.setTop (mkF m pc Ls (.null :: rest))) :=
  own_via (fun _ k => XS.ifnullYes X.here hx (g := mkF m pc Ls (.null :: rest)) rfl (pc0 := pc) (pc' := pcT) rfl hd rfl ho hT k) h
theorem own_ifnullF (X : Stand p l e R s m args below meth c T locs cells slots) (hx : p.tables.exec = Jvm.exec) {pc pcF : Nat} {Ls : Array Slot} {rest : List Value} {b : Addr} {o : Int} (hd : decode c.code pc = .ok (.ifnull o, 3)) (hF : pc + 3 = pcF) (h : own_Ends p e below Φ (T.setTop (mkF m pcF Ls rest))) : own_Ends p e below Φ (T.setTop (mkF m pc Ls (.ref b :: rest))) := by
  subst hF; exact own_via (fun _ k => XS.ifnullNo X.here hx (g := mkF m pc Ls (.ref b :: rest)) rfl hd rfl k) h
theorem own_ifnonnullT (X : Stand p l e R s m args below meth c T locs cells slots) (hx : p.tables.exec = Jvm.exec) {pc pcT : Nat} {Ls : Array Slot} {rest : List Value} {b : Addr} {o : Int} (hd : decode c.code pc = .ok (.ifnonnull o, 3)) (ho : 0 ≤ (pc : Int) + o) (hT : ((pc : Int) + o).toNat = pcT) (h : own_Ends p e below Φ (T.setTop (mkF m pcT Ls rest))) : own_Ends p e below Φ (T.setTop (mkF m pc Ls (.ref b :: rest))) :=
  own_via (fun _ k => XS.ifnonnullYes X.here hx (g := mkF m pc Ls (.ref b :: rest)) rfl (pc0 := pc) (pc' := pcT) rfl hd rfl ho hT k) h
theorem own_ifnonnullF (X : Stand p l e R s m args below meth c T locs cells slots) (hx : p.tables.exec = Jvm.exec) {pc pcF : Nat} {Ls : Array Slot} {rest : List Value} {o : Int} (hd : decode c.code pc = .ok (.ifnonnull o, 3)) (hF : pc + 3 = pcF) (h : own_Ends p e below Φ (T.setTop (mkF m pcF Ls rest))) : own_Ends p e below Φ (T.setTop (mkF m pc Ls (.null :: rest))) := by
  subst hF; exact own_via (fun _ k => XS.ifnonnullNo X.here hx (g := mkF m pc Ls (.null :: rest)) rfl hd rfl k) h
theorem own_acmp (X : Stand p l e R s m args below meth c T locs cells slots) (hx : p.tables.exec = Jvm.exec) {pc pcT pcF : Nat} {Ls : Array Slot} {rest : List Value} {x y : Value} {cd : ClassFile.ACond} {o : Int} (hd : decode c.code pc = .ok (.if_acmp cd o, 3)) (h1 : x.isRef = true) (h2 : y.isRef = true) (ho : 0 ≤ (pc : Int) + o) (hT : ((pc : Int) + o).toNat = pcT) (hF : pc + 3 = pcF)
    (kT : acV cd (decide (x = y)) = true → own_Ends p e below Φ (T.setTop (mkF m pcT Ls rest))) (kF : acV cd (decide (x = y)) = false → own_Ends p e below Φ (T.setTop (mkF m pcF Ls rest))) : own_Ends p e below Φ (T.setTop (mkF m pc Ls (y :: x :: rest))) := by
  subst hF hT
  rcases q : acV cd (decide (x = y)) with _ | _
  · exact own_via (fun _ k => Jvm.RoadKit.acmp (g := mkF m pc Ls (y :: x :: rest)) X hx rfl h1 h2 (pc0 := pc) (pc' := pc + 3) rfl hd rfl rfl ho (by rw [q]; rfl) k) (kF q)
  · exact own_via (fun _ k => Jvm.RoadKit.acmp (g := mkF m pc Ls (y :: x :: rest)) X hx rfl h1 h2 (pc0 := pc) (pc' := ((pc : Int) + o).toNat) rfl hd rfl rfl ho (by rw [q]; rfl) k) (kT q)
theorem own_acmp_eq (X : Stand p l e R s m args below meth c T locs cells slots) (hx : p.tables.exec = Jvm.exec) {pc pcT pcF : Nat} {Ls : Array Slot} {rest : List Value} {x y : Addr} {o : Int} (hd : decode c.code pc = .ok (.if_acmp .eq o, 3)) (ho : 0 ≤ (pc : Int) + o) (hT : ((pc : Int) + o).toNat = pcT) (hF : pc + 3 = pcF)
    (kT : x = y → own_Ends p e below Φ (T.setTop (mkF m pcT Ls rest))) (kF : ¬ x = y → own_Ends p e below Φ (T.setTop (mkF m pcF Ls rest))) : own_Ends p e below Φ (T.setTop (mkF m pc Ls (.ref y :: .ref x :: rest))) :=
  own_acmp X hx hd rfl rfl ho hT hF (fun q => kT (by simpa [acV] using q)) (fun q => kF (by simpa [acV] using q))
theorem own_acmp_ne (X : Stand p l e R s m args below meth c T locs cells slots) (hx : p.tables.exec = Jvm.exec) {pc pcT pcF : Nat} {Ls : Array Slot} {rest : List Value} {x y : Addr} {o : Int} (hd : decode c.code pc = .ok (.if_acmp .ne o, 3)) (ho : 0 ≤ (pc : Int) + o) (hT : ((pc : Int) + o).toNat = pcT) (hF : pc + 3 = pcF)
    (kT : ¬ x = y → own_Ends p e below Φ (T.setTop (mkF m pcT Ls rest))) (kF : x = y → own_Ends p e below Φ (T.setTop (mkF m pcF Ls rest))) : own_Ends p e below Φ (T.setTop (mkF m pc Ls (.ref y :: .ref x :: rest))) :=
  own_acmp X hx hd rfl rfl ho hT hF (fun q => kT (by simpa [acV] using q)) (fun q => kF (by simpa [acV] using q))
theorem own_ldcInt (X : Stand p l e R s m args below meth c T locs cells slots) (hx : p.tables.exec = Jvm.exec) (hZ : Z.Warmed39 s.vm) {own : String} {index : Nat} {v : Int32} (hown : s.vm.findClass own = some m.cls) (w : (Jvm.Cond.constant own index v).before a0 Z = true) {pc pc' : Nat} {Ls : Array Slot} {rest : List Value} (hd : decode c.code pc = .ok (.ldc index, 2)) (hp : pc + 2 = pc') (h : own_Ends p e below Φ (T.setTop (mkF m pc' Ls (.int v :: rest)))) : own_Ends p e below Φ (T.setTop (mkF m pc Ls rest)) := by
  subst hp; exact own_via (X.ldcInt hx hown (mvT hZ w) (g := mkF m pc Ls rest) rfl hd) h
theorem own_getF (X : Stand p l e R s m args below meth c T locs cells slots) (hx : p.tables.exec = Jvm.exec) (hZ : Z.Warmed39 s.vm) {own R0 O n d host : String} {index : Nat} (hown : s.vm.findClass own = some m.cls) (w : (Jvm.Cond.fieldLink own index R0 n d).before a0 Z = true ∨ (Jvm.Cond.fieldLinkNest own index R0 n d host).before a0 Z = true) (via : Via Z R0 O n d) (eT : T.heap = h) {a : Addr} {v : Value} (F : Fld Z h a O n d v) {pc pc' : Nat} {Ls : Array Slot} {rest : List Value}
    (hd : decode c.code pc = .ok (.getfield index, 3)) (hp : pc + 3 = pc') (k : ∀ T', Stand p l e R s m args below meth c T' locs cells slots → T'.heap = h → own_Ends p e below Φ (T'.setTop (mkF m pc' Ls (v :: rest)))) : own_Ends p e below Φ (T.setTop (mkF m pc Ls (.ref a :: rest))) := by
  subst hp; obtain ⟨T', X', e', st⟩ := getF X hx hZ hown w via eT F (g := mkF m pc Ls (.ref a :: rest)) rfl rfl hd
  exact own_via st (k T' X' e')
theorem own_getS (X : Stand p l e R s m args below meth c T locs cells slots) (hx : p.tables.exec = Jvm.exec) (hZ : Z.Warmed39 s.vm) {own R0 O n d host : String} {index : Nat} (hown : s.vm.findClass own = some m.cls) (w : (Jvm.Cond.fieldLink own index R0 n d).before a0 Z = true ∨ (Jvm.Cond.fieldLinkNest own index R0 n d host).before a0 Z = true) (via : Via Z R0 O n d) (eT : T.heap = h) {v : Value} (F : Sta Z h O n d v) {pc pc' : Nat} {Ls : Array Slot} {rest : List Value}
    (hd : decode c.code pc = .ok (.getstatic index, 3)) (hp : pc + 3 = pc') (k : ∀ T', Stand p l e R s m args below meth c T' locs cells slots → T'.heap = h → own_Ends p e below Φ (T'.setTop (mkF m pc' Ls (v :: rest)))) : own_Ends p e below Φ (T.setTop (mkF m pc Ls rest)) := by
  subst hp; obtain ⟨T', X', e', st⟩ := getS2 X hx hZ hown w via eT F (g := mkF m pc Ls rest) rfl hd
  exact own_via st (k T' X' e')
theorem own_putF (X : Stand p l e R s m args below meth c T locs cells slots) (hx : p.tables.exec = Jvm.exec) (hZ : Z.Warmed39 s.vm) {own R0 O n d host C : String} {index kk : Nat} {ty : FieldType} (hown : s.vm.findClass own = some m.cls) (w : (Jvm.Cond.fieldLink own index R0 n d).before a0 Z = true ∨ (Jvm.Cond.fieldLinkNest own index R0 n d host).before a0 Z = true) (via : Via Z R0 O n d) (eT : T.heap = h) {a : Addr} {v old : Value} (F : Fld Z h a O n d old) (E : Exa Z h a C)
    (L : (Jvm.Cond.lays C O n d).before a0 Z = true ∨ ((Jvm.Cond.laysFinal C O n d).before a0 Z = true ∧ own = O ∧ meth.name = "<init>")) (wi : (Jvm.Cond.instantiable C kk).before a0 Z = true) (hty : parseFieldDescriptor d = some ty) (hn : narrow ty v = v) (hf : fits ty v = true) {n0 : Nat} (N : Fr n0 locs) (g : n0 ≤ a) {pc pc' : Nat} {Ls : Array Slot} {rest : List Value}
    (hd : decode c.code pc = .ok (.putfield index, 3)) (hp : pc + 3 = pc') (k : ∀ T' h', Stand p l e R s m args below meth c T' (locs ++ [⟨a, Jvm.RoadKit.slotOf Z O n d⟩]) cells slots → T'.heap = h' → Wr h h' a (Jvm.RoadKit.slotOf Z O n d) v → Fr n0 (locs ++ [⟨a, Jvm.RoadKit.slotOf Z O n d⟩]) → own_Ends p e below Φ (T'.setTop (mkF m pc' Ls rest))) : own_Ends p e below Φ (T.setTop (mkF m pc Ls (v :: .ref a :: rest))) := by
  subst hp; obtain ⟨T', h', X', e', W', st⟩ := putF X hx hZ hown w via eT F E L wi hty hn hf (g := mkF m pc Ls (v :: .ref a :: rest)) rfl rfl hd
  exact own_via st (k T' h' X' e' W' (Fr.snoc X' N g))
theorem own_putFN (X : Stand p l e R s m args below meth c T locs cells slots) (hx : p.tables.exec = Jvm.exec) (hZ : Z.Warmed39 s.vm) {own R0 O n d C : String} {index kk : Nat} {ty : FieldType} (hown : s.vm.findClass own = some m.cls) (w : (Jvm.Cond.fieldLink own index R0 n d).before a0 Z = true) (via : Via Z R0 O n d) (eT : T.heap = h) {a : Addr} {v old : Value} (v' : Value) (F : Fld Z h a O n d old) (E : Exa Z h a C)
    (L : (Jvm.Cond.lays C O n d).before a0 Z = true ∨ ((Jvm.Cond.laysFinal C O n d).before a0 Z = true ∧ own = O ∧ meth.name = "<init>")) (wi : (Jvm.Cond.instantiable C kk).before a0 Z = true) (hty : parseFieldDescriptor d = some ty) (hn : narrow ty v = v') (hf : fits ty v' = true) {n0 : Nat} (N : Fr n0 locs) (g : n0 ≤ a) {pc pc' : Nat} {Ls : Array Slot} {rest : List Value}
    (hd : decode c.code pc = .ok (.putfield index, 3)) (hp : pc + 3 = pc') (k : ∀ T' h', Stand p l e R s m args below meth c T' (locs ++ [⟨a, Jvm.RoadKit.slotOf Z O n d⟩]) cells slots → T'.heap = h' → Wr h h' a (Jvm.RoadKit.slotOf Z O n d) v' → Fr n0 (locs ++ [⟨a, Jvm.RoadKit.slotOf Z O n d⟩]) → own_Ends p e below Φ (T'.setTop (mkF m pc' Ls rest))) : own_Ends p e below Φ (T.setTop (mkF m pc Ls (v :: .ref a :: rest))) := by
  subst hp; obtain ⟨T', h', X', e', W', st⟩ := putFN X hx hZ hown w via eT F E L wi hty hn hf (g := mkF m pc Ls (v :: .ref a :: rest)) rfl rfl hd
  exact own_via st (k T' h' X' e' W' (Fr.snoc X' N g))
theorem own_new (X : Stand p l e R s m args below meth c T locs cells slots) (hx : p.tables.exec = Jvm.exec) (hZ : Z.Warmed39 s.vm) {own C : String} {index n : Nat} (hown : s.vm.findClass own = some m.cls) (w : (Jvm.Cond.classLink own index C).before a0 Z = true) (wi : (Jvm.Cond.instantiable C n).before a0 Z = true) (wz : (Jvm.Cond.initialized C).before a0 Z = true) (eT : T.heap = h) {pc pc' : Nat} {Ls : Array Slot} {rest : List Value}
    (hd : decode c.code pc = .ok (.new index, 3)) (hc : cells + 1 ≤ R.cells) (hl : slots + n ≤ R.slots) (hp : pc + 3 = pc')
    (k : ∀ T' h' b, Stand p l e R s m args below meth c T' locs (cells + 1) (slots + n) → T'.heap = h' → b = h.size → Ext h h' → Exa Z h' b C → (∀ {O nm d : String} {ty : FieldType}, Laid Z a0 C O nm d → parseFieldDescriptor d = some ty → Fld Z h' b O nm d (defaultValue ty)) → own_Ends p e below Φ (T'.setTop (mkF m pc' Ls (.ref b :: rest)))) : own_Ends p e below Φ (T.setTop (mkF m pc Ls rest)) := by
  subst hp; obtain ⟨T', h', X', e', E', A', D', -, st⟩ := newO X hx hZ hown w wi wz eT (g := mkF m pc Ls rest) rfl hd hc hl
  exact own_via st (k T' h' _ X' e' rfl E' A' D')
theorem own_initO (X : Stand p l e R s m args below meth c T locs cells slots) (hx : p.tables.exec = Jvm.exec) (hZ : Z.Warmed39 s.vm) {own : String} {idx : Nat} (hown : s.vm.findClass own = some m.cls) (w1 : (Jvm.Cond.methodLink own idx Lib.objectInit).before a0 Z = true) (w2 : (Jvm.Cond.instanceMethod Lib.objectInit).before a0 Z = true) (w3 : (Jvm.Cond.code Lib.objectInit ⟨#[0xb1]⟩ 1 none).before a0 Z = true) (eT : T.heap = h) {a : Addr} {pc pc' : Nat} {Ls : Array Slot} {rest : List Value} (hsize : Ls.size = c.maxLocals)
    (hd : decode c.code pc = .ok (.invokespecial idx, 3)) (W : Nat) (hW : (rest.map fun v => v.category).sum = W) (hf : 1 ≤ R.frames) (hl : W + 12 ≤ R.locals) (hp : pc + 3 = pc') (k : ∀ T', Stand p l e R s m args below meth c T' locs cells slots → T'.heap = h → own_Ends p e below Φ (T'.setTop (mkF m pc' Ls rest))) : own_Ends p e below Φ (T.setTop (mkF m pc Ls (.ref a :: rest))) := by
  subst hp; obtain ⟨T', X', e', st⟩ := initO X hx hZ hown w1 w2 w3 eT (g := mkF m pc Ls (.ref a :: rest)) rfl hsize rfl hd hf (W := W) (by rw [← hW]; show 2 * 0 + _ ≤ _; omega) hl
  exact own_via st (k T' X' e')
theorem own_static (X : Stand p l e R s m args below meth c T locs cells slots) (hx : p.tables.exec = Jvm.exec) (hZ : Z.Warmed39 s.vm) {own : String} {index : Nat} {y : MethodName} {bytes : ByteArray} {maxL : Nat} {ret : Option FieldType} {rm : Room} {Q : Option Value → Heap → List Loc → Prop} (hown : s.vm.findClass own = some m.cls) (w1 : (Jvm.Cond.methodLink own index y).before a0 Z = true) (w2 : (Jvm.Cond.static y).before a0 Z = true) (w3 : (Jvm.Cond.initialized y.cls).before a0 Z = true) (w4 : (Jvm.Cond.code y bytes maxL ret).before a0 Z = true) (hy : y.cls ≠ "java/lang/invoke/MethodHandle" ∧ y.cls ≠ "java/lang/invoke/VarHandle") (eT : T.heap = h) (hf : rm.frames + 1 ≤ R.frames) {W : Nat} (hl : W + (maxL + 11) + rm.locals ≤ R.locals) (hc : cells + rm.cells ≤ R.cells) (hs : slots + rm.slots ≤ R.slots) {pc pc' : Nat} {Ls : Array Slot} (argsL rest : List Value) {st : List Value} (hsize : Ls.size = c.maxLocals) (hM : own_Met l y bytes maxL ret rm Z argsL.toArray h Q)
    {ps : List FieldType} {r : Option FieldType} (hpd : parseMethodDescriptor y.desc = some ⟨ps, r⟩) (hlen : argsL.length = ps.length) (hst : st = argsL.reverse ++ rest) (hW : (rest.map fun v => v.category).sum = W) (hd : decode c.code pc = .ok (.invokestatic index, 3)) (hp : pc + 3 = pc') (k : ∀ v T' L, Stand p l e R s m args below meth c T' (locs ++ L) (cells + rm.cells) (slots + rm.slots) → Q v T'.heap L → own_Ends p e below Φ (T'.setTop (mkF m pc' Ls (v.toList ++ rest)))) : own_Ends p e below Φ (T.setTop (mkF m pc Ls st)) := by
  subst hp
  obtain ⟨v, _, ⟨T', L', k', n'⟩, -, X', ⟨Lc, hQ, e1, e2, e3⟩, st'⟩ := Jvm.LawKit.callS X hx (y := y) hown (mvT hZ w1) (mvT hZ w2) (mvT hZ w3) (mvT hZ w4) hy (backOf (W := W) (hM []) hZ w4 w3 hf hl) (g := mkF m pc Ls st) rfl hsize (argsL := argsL) (rest := rest) (lenOf hpd hlen) hst (by rw [← hW]; show 2 * 0 + _ ≤ _; omega) hd (fun _ _ => ⟨rfl, eT, hc, hs⟩)
  dsimp only [Pt.U, Pt.locs, Pt.cells, Pt.slots] at X' e1 e2 e3 st' hQ
  subst e1 e2 e3
  exact own_via st' (k v T' Lc X' hQ)
theorem own_special (X : Stand p l e R s m args below meth c T locs cells slots) (hx : p.tables.exec = Jvm.exec) (hZ : Z.Warmed39 s.vm) {own : String} {index : Nat} {y : MethodName} {bytes : ByteArray} {maxL : Nat} {rm : Room} {Q : Option Value → Heap → List Loc → Prop} (hy1 : y.name = "<init>") (hown : s.vm.findClass own = some m.cls) (w1 : (Jvm.Cond.methodLink own index y).before a0 Z = true) (w2 : (Jvm.Cond.instanceMethod y).before a0 Z = true) (w3 : (Jvm.Cond.initialized y.cls).before a0 Z = true) (w4 : (Jvm.Cond.code y bytes maxL none).before a0 Z = true) (hy : y.cls ≠ "java/lang/invoke/MethodHandle" ∧ y.cls ≠ "java/lang/invoke/VarHandle") (eT : T.heap = h) (hf : rm.frames + 1 ≤ R.frames) {W : Nat} (hl : W + (maxL + 11) + rm.locals ≤ R.locals) (hc : cells + rm.cells ≤ R.cells) (hs : slots + rm.slots ≤ R.slots) {pc pc' : Nat} {Ls : Array Slot} (argsL rest : List Value) {st : List Value} (hsize : Ls.size = c.maxLocals) {a : Addr} (hM : own_Met l y bytes maxL none rm Z (.ref a :: argsL).toArray h Q)
    {ps : List FieldType} {r : Option FieldType} (hpd : parseMethodDescriptor y.desc = some ⟨ps, r⟩) (hlen : argsL.length = ps.length) (hst : st = argsL.reverse ++ .ref a :: rest) (hW : (rest.map fun v => v.category).sum = W) (hd : decode c.code pc = .ok (.invokespecial index, 3)) (hp : pc + 3 = pc') (k : ∀ v T' L, Stand p l e R s m args below meth c T' (locs ++ L) (cells + rm.cells) (slots + rm.slots) → Q v T'.heap L → own_Ends p e below Φ (T'.setTop (mkF m pc' Ls (v.toList ++ rest)))) : own_Ends p e below Φ (T.setTop (mkF m pc Ls st)) := by
  subst hp
  obtain ⟨v, _, ⟨T', L', k', n'⟩, -, X', ⟨Lc, hQ, e1, e2, e3⟩, st'⟩ := X.specialBack hx (y := y) hy1 hown (mvT hZ w1) (mvT hZ w2) (mvT hZ w4) hy (backOf (W := W) (hM []) hZ w4 w3 hf hl) (g := mkF m pc Ls st) rfl hsize (Steps.refl _) (a := a) (argsL := argsL) (rest := rest) (lenOf hpd hlen) hst (by rw [← hW]; show 2 * 0 + _ ≤ _; omega) hd (fun _ _ => ⟨rfl, eT, hc, hs⟩)
  dsimp only [Pt.U, Pt.locs, Pt.cells, Pt.slots] at X' e1 e2 e3 st' hQ
  subst e1 e2 e3
  exact own_thru st' (k v T' Lc X' hQ)
theorem own_virtual (X : Stand p l e R s m args below meth c T locs cells slots) (hx : p.tables.exec = Jvm.exec) (hZ : Z.Warmed39 s.vm) {own C : String} {index : Nat} {y z : MethodName} {bytes : ByteArray} {maxL : Nat} {ret : Option FieldType} {rm : Room} {Q : Option Value → Heap → List Loc → Prop} (hown : s.vm.findClass own = some m.cls) (w1 : (Jvm.Cond.methodLink own index y).before a0 Z = true) (w2 : (Jvm.Cond.declares y).before a0 Z = true) (hnf : NotFace s y) (w3 : (Jvm.Cond.selects C y z).before a0 Z = true) (w4 : (Jvm.Cond.instanceMethod z).before a0 Z = true) (w5 : (Jvm.Cond.initialized z.cls).before a0 Z = true) (w6 : (Jvm.Cond.code z bytes maxL ret).before a0 Z = true) (hy : y.cls ≠ "java/lang/invoke/MethodHandle" ∧ y.cls ≠ "java/lang/invoke/VarHandle") (eT : T.heap = h) (hf : rm.frames + 1 ≤ R.frames) {W : Nat} (hl : W + (maxL + 11) + rm.locals ≤ R.locals) (hc : cells + rm.cells ≤ R.cells) (hs : slots + rm.slots ≤ R.slots) {pc pc' : Nat} {Ls : Array Slot} (argsL rest : List Value) {st : List Value} (hsize : Ls.size = c.maxLocals) {a : Addr} (E : Exa Z h a C) (hM : own_Met l z bytes maxL ret rm Z (.ref a :: argsL).toArray h Q)
    {ps : List FieldType} {r : Option FieldType} (hpd : parseMethodDescriptor y.desc = some ⟨ps, r⟩) (hlen : argsL.length = ps.length) (hst : st = argsL.reverse ++ .ref a :: rest) (hW : (rest.map fun v => v.category).sum = W) (hd : decode c.code pc = .ok (.invokevirtual index, 3)) (hp : pc + 3 = pc') (k : ∀ v T' L, Stand p l e R s m args below meth c T' (locs ++ L) (cells + rm.cells) (slots + rm.slots) → Q v T'.heap L → own_Ends p e below Φ (T'.setTop (mkF m pc' Ls (v.toList ++ rest)))) : own_Ends p e below Φ (T.setTop (mkF m pc Ls st)) := by
  subst hp
  obtain ⟨cq, kq, q1, q2, q3⟩ := isOf hZ eT E
  obtain ⟨v, _, ⟨T', L', k', n'⟩, -, X', ⟨Lc, hQ, e1, e2, e3⟩, st'⟩ := X.virtualBack hx (y := y) (z := z) hown (mvT hZ w1) (mvT hZ w2) hnf (mvT hZ w3) (mvT hZ w4) hy (backOf (W := W) (hM []) hZ w6 w5 hf hl) q1 q3 (g := mkF m pc Ls st) rfl hsize (Steps.refl _) (argsL := argsL) (rest := rest) (lenOf hpd hlen) hst (by rw [← hW]; show 2 * 0 + _ ≤ _; omega) hd (fun _ _ => ⟨rfl, eT, hc, hs⟩)
  dsimp only [Pt.U, Pt.locs, Pt.cells, Pt.slots] at X' e1 e2 e3 st' hQ
  subst e1 e2 e3
  exact own_thru st' (k v T' Lc X' hQ)
theorem own_private (X : Stand p l e R s m args below meth c T locs cells slots) (hx : p.tables.exec = Jvm.exec) (hZ : Z.Warmed39 s.vm) {own : String} {index : Nat} {y : MethodName} {bytes : ByteArray} {maxL : Nat} {ret : Option FieldType} {rm : Room} {Q : Option Value → Heap → List Loc → Prop} (hown : s.vm.findClass own = some m.cls) (w1 : (Jvm.Cond.methodLink own index y).before a0 Z = true) (hnf : ∀ c k, s.vm.findClass y.cls = some c → s.vm.classes[c]? = some k → k.isInterface = false) (w4 : (Jvm.Cond.instanceMethod y).before a0 Z = true) (wp : (Jvm.Cond.privateMethod y).before a0 Z = true) (w5 : (Jvm.Cond.initialized y.cls).before a0 Z = true) (w6 : (Jvm.Cond.code y bytes maxL ret).before a0 Z = true) (hy : y.cls ≠ "java/lang/invoke/MethodHandle" ∧ y.cls ≠ "java/lang/invoke/VarHandle") (eT : T.heap = h) (hf : rm.frames + 1 ≤ R.frames) {W : Nat} (hl : W + (maxL + 11) + rm.locals ≤ R.locals) (hc : cells + rm.cells ≤ R.cells) (hs : slots + rm.slots ≤ R.slots) {pc pc' : Nat} {Ls : Array Slot} (argsL rest : List Value) {st : List Value} (hsize : Ls.size = c.maxLocals) {a : Addr} {C : String} (E : Exa Z h a C) (hM : own_Met l y bytes maxL ret rm Z (.ref a :: argsL).toArray h Q)
    {ps : List FieldType} {r : Option FieldType} (hpd : parseMethodDescriptor y.desc = some ⟨ps, r⟩) (hlen : argsL.length = ps.length) (hst : st = argsL.reverse ++ .ref a :: rest) (hW : (rest.map fun v => v.category).sum = W) (hd : decode c.code pc = .ok (.invokevirtual index, 3)) (hp : pc + 3 = pc') (k : ∀ v T' L, Stand p l e R s m args below meth c T' (locs ++ L) (cells + rm.cells) (slots + rm.slots) → Q v T'.heap L → own_Ends p e below Φ (T'.setTop (mkF m pc' Ls (v.toList ++ rest)))) : own_Ends p e below Φ (T.setTop (mkF m pc Ls st)) := by
  subst hp
  obtain ⟨cl, q1, q2⟩ := E.cell
  have hpr := Cond.privateMethod_at (mvP hZ wp (args := args))
  have hin : (Jvm.Cond.instanceMethod y).before args s = true := mvT hZ w4
  obtain ⟨mk, methM, hnamed, hmethM, -, -⟩ := Cond.instanceMethod_spec hin
  obtain ⟨kk, hkk, -⟩ := className_of_methodNamed hnamed
  have hfc := findClass_of_methodNamed hnamed
  have hsel := selects_self_of_private (args := args) hfc hkk (hnf _ _ hfc hkk) hpr hin hy
  obtain ⟨v, _, ⟨T', L', k', n'⟩, -, X', ⟨Lc, hQ, e1, e2, e3⟩, st'⟩ := X.privateBack hx (y := y) hown (mvT hZ w1) hin hsel hpr (mvT hZ w6) hy (backOf (W := W) (hM []) hZ w6 w5 hf hl) (g := mkF m pc Ls st) rfl hsize (Steps.refl _) (a := a) (by rw [eT]; exact q1) q2 (argsL := argsL) (rest := rest) (lenOf hpd hlen) hst (by rw [← hW]; show 2 * 0 + _ ≤ _; omega) hd (fun _ _ => ⟨rfl, eT, hc, hs⟩)
  dsimp only [Pt.U, Pt.locs, Pt.cells, Pt.slots] at X' e1 e2 e3 st' hQ
  subst e1 e2 e3
  exact own_thru st' (k v T' Lc X' hQ)
theorem own_nf (hZ : Z.Warmed39 s.vm) {C : String} {y z : MethodName} (w : (Jvm.Cond.selects C y z).before a0 Z = true) : ∀ c k, s.vm.findClass z.cls = some c → s.vm.classes[c]? = some k → k.isInterface = false := fun c k h1 h2 => by
  obtain ⟨c2, r2, m2, -, -, q3, -, kP, hkP, hkPi⟩ := Cond.selects_spec (show (Jvm.Cond.selects C y z).before #[] s = true from mvT hZ w)
  have := findClass_of_methodNamed q3
  cases this.symm.trans h1
  cases hkP.symm.trans h2
  exact hkPi
theorem own_leave (X : Stand p l e R s m args below meth c T locs cells slots) (hlocks : meth.locks = false) {v : Option Value} (hv : meth.sig.returnType = none → v = none) {Q : Option Value → Heap → List Loc → Prop} {kc ks : Nat} (hc : cells ≤ kc) (hs : slots ≤ ks) (hq : Q v T.heap locs) {t : State}
    (step : ∀ fs, (∀ (f : JFrame) (acts : List Action), f.method = m → f.locked = none → f.entered = [] → (doReturn e (T.setTop f) acts v).1 = T.setFrames fs) → Steps p.tables e below t (T.setFrames fs)) : own_Ends p e below (own_Post s Q kc ks) t := by
  obtain ⟨fs, hr, hrun, hended, hW, hsame⟩ := X.leave (v := v) hv hlocks
  exact ⟨_, _, step fs hr, hrun, hended, v, locs, rfl, hq, ⟨_, rfl⟩, hW, hsame.mono hc hs⟩
theorem own_retN (X : Stand p l e R s m args below meth c T locs cells slots) (hx : p.tables.exec = Jvm.exec) (hlocks : meth.locks = false) {t : FieldType} (hret : meth.sig.returnType = some t) (ht : t = .boolean ∨ t = .byte ∨ t = .char ∨ t = .short) {pc : Nat} {Ls : Array Slot} {z : Int32} {rest : List Value} (hd : decode c.code pc = .ok (.ireturn, 1)) {Q : Option Value → Heap → List Loc → Prop} {kc ks : Nat} (hc : cells ≤ kc) (hs : slots ≤ ks) (hn : nar t z = z) (hq : Q (some (.int z)) T.heap locs) :
    own_Ends p e below (own_Post s Q kc ks) (T.setTop (mkF m pc Ls (.int z :: rest))) :=
  own_leave X hlocks (v := some (.int (nar t z))) (fun h => by rw [hret] at h; cases h) hc hs (by rw [hn]; exact hq) (fun fs hr => retN X hx hret ht hd hr)
theorem own_retI (X : Stand p l e R s m args below meth c T locs cells slots) (hx : p.tables.exec = Jvm.exec) (hlocks : meth.locks = false) (hret : meth.sig.returnType = some .int) {pc : Nat} {Ls : Array Slot} {z : Int32} {rest : List Value} (hd : decode c.code pc = .ok (.ireturn, 1)) {Q : Option Value → Heap → List Loc → Prop} {kc ks : Nat} (hc : cells ≤ kc) (hs : slots ≤ ks) (hq : Q (some (.int z)) T.heap locs) :
    own_Ends p e below (own_Post s Q kc ks) (T.setTop (mkF m pc Ls (.int z :: rest))) :=
  own_leave X hlocks (v := some (.int z)) (fun h => by rw [hret] at h; cases h) hc hs hq (fun fs hr => retOut X hx hret (w := .int z) rfl (Or.inl ⟨rfl, Or.inl rfl, z, rfl⟩) hd hr)
theorem own_retJ (X : Stand p l e R s m args below meth c T locs cells slots) (hx : p.tables.exec = Jvm.exec) (hlocks : meth.locks = false) (hret : meth.sig.returnType = some .long) {pc : Nat} {Ls : Array Slot} {z : Int64} {rest : List Value} (hd : decode c.code pc = .ok (.lreturn, 1)) {Q : Option Value → Heap → List Loc → Prop} {kc ks : Nat} (hc : cells ≤ kc) (hs : slots ≤ ks) (hq : Q (some (.long z)) T.heap locs) :
    own_Ends p e below (own_Post s Q kc ks) (T.setTop (mkF m pc Ls (.long z :: rest))) :=
  own_leave X hlocks (v := some (.long z)) (fun h => by rw [hret] at h; cases h) hc hs hq (fun fs hr => retOut X hx hret (w := .long z) rfl (Or.inr (Or.inl ⟨rfl, rfl, z, rfl⟩)) hd hr)
theorem own_narR {t : FieldType} (ht : t.isReference = true) {w : Value} (hw : w.isRef = true) : narrow t w = w := by cases t <;> first | (cases w <;> first | rfl | cases hw) | cases ht
theorem own_retA (X : Stand p l e R s m args below meth c T locs cells slots) (hx : p.tables.exec = Jvm.exec) (hlocks : meth.locks = false) {t : FieldType} (hret : meth.sig.returnType = some t) (ht : t.isReference = true) {pc : Nat} {Ls : Array Slot} {w : Value} (hw : w.isRef = true) {rest : List Value} (hd : decode c.code pc = .ok (.areturn, 1)) {Q : Option Value → Heap → List Loc → Prop} {kc ks : Nat} (hc : cells ≤ kc) (hs : slots ≤ ks) (hq : Q (some w) T.heap locs) :
    own_Ends p e below (own_Post s Q kc ks) (T.setTop (mkF m pc Ls (w :: rest))) :=
  own_leave X hlocks (v := some w) (fun h => by rw [hret] at h; cases h) hc hs hq (fun fs hr => retOut X hx hret (own_narR ht hw) (Or.inr (Or.inr (Or.inr (Or.inr ⟨rfl, ht, hw⟩)))) hd hr)
theorem own_ret (X : Stand p l e R s m args below meth c T locs cells slots) (hx : p.tables.exec = Jvm.exec) (hlocks : meth.locks = false) (hret : meth.sig.returnType = none) {pc : Nat} {Ls : Array Slot} (hd : decode c.code pc = .ok (.return_, 1)) {Q : Option Value → Heap → List Loc → Prop} {kc ks : Nat} (hc : cells ≤ kc) (hs : slots ≤ ks) (hq : Q none T.heap locs) :
    own_Ends p e below (own_Post s Q kc ks) (T.setTop (mkF m pc Ls [])) :=
  own_leave X hlocks (v := none) (fun _ => rfl) hc hs hq (fun fs hr => X.returnOut hx hret hd hr)
end OwnKit
section OwnKitH
variable {p : Program} {l : Launch} {e : Env} {R : Room} {s : State} {m : MethodId} {args : Array Value} {below : List Frame} {meth : Method} {c : Code} {T : State} {locs : List Loc} {cells slots : Nat} {Z : State} {a0 : Array Value} {h : Heap} {Φ : Outcome → State → Prop} {vm0 : Vm} {EL : List (String × Nat)} {h0 : Heap}
def own_H (Z : State) (EL : List (String × Nat)) (s : State) (h0 : Heap) (vm0 : Vm) (h : Heap) : Prop := s.heap = h0 ∧ (∃ k0, s.Since vm0 k0 ∧ k0 ≤ h.size) ∧ CHr Z EL s.vm h0 vm0 h
theorem own_H.ext {h' : Heap} (H : own_H Z EL s h0 vm0 h) (E : Ext h h') : own_H Z EL s h0 vm0 h' := ⟨H.1, by obtain ⟨k, h1, h2⟩ := H.2.1; exact ⟨k, h1, Nat.le_trans h2 E.1⟩, H.2.2.trans (CHr.ext E H.2.2.1)⟩
theorem own_H.wr {h' : Heap} {a : Addr} {sl : Nat} {v : Value} (H : own_H Z EL s h0 vm0 h) (W : Wr h h' a sl v) (S : Safe Z EL vm0 h a) : own_H Z EL s h0 vm0 h' := ⟨H.1, by obtain ⟨k, h1, h2⟩ := H.2.1; exact ⟨k, h1, by rw [W.size]; exact h2⟩, H.2.2.trans (CHr.wr W S H.2.2.1)⟩
theorem own_H.keep {h' : Heap} {ws : List Addr} (H : own_H Z EL s h0 vm0 h) (K : Keep h h' ws) (S : ∀ x ∈ ws, Safe Z EL vm0 h x) : own_H Z EL s h0 vm0 h' := ⟨H.1, by obtain ⟨k, h1, h2⟩ := H.2.1; exact ⟨k, h1, Nat.le_trans h2 K.1⟩, H.2.2.trans (CHr.keep K S H.2.2.1)⟩
theorem own_H.ch (H : own_H Z EL s h0 vm0 h) : CHv Z EL vm0 h := H.2.2.1
theorem own_sfE {h' : Heap} {y : Addr} (S : Safe Z EL vm0 h y) (E : Ext h h') (H : own_H Z EL s h0 vm0 h) : Safe Z EL vm0 h' y := Safe.ext E H.ch S
theorem own_sfN {h' : Heap} {y : Addr} (q : y = h.size) (E : Ext h h') (H : own_H Z EL s h0 vm0 h) : Safe Z EL vm0 h' y := Safe.ext E H.ch (Safe.new (Nat.le_of_eq q.symm))
theorem own_sfW {h' : Heap} {y a : Addr} {sl : Nat} {v : Value} (S : Safe Z EL vm0 h y) (W : Wr h h' a sl v) (Sa : Safe Z EL vm0 h a) (H : own_H Z EL s h0 vm0 h) : Safe Z EL vm0 h' y := Safe.wr W Sa H.ch S
theorem own_sfK {h' : Heap} {y : Addr} {ws : List Addr} (S : Safe Z EL vm0 h y) (K : Keep h h' ws) (Sw : ∀ x ∈ ws, Safe Z EL vm0 h x) (H : own_H Z EL s h0 vm0 h) : Safe Z EL vm0 h' y := Safe.keep K Sw H.ch S
def own_PostH (Z : State) (EL : List (String × Nat)) (s : State) (Q : Option Value → Heap → List Loc → Prop) (kc ks : Nat) (o : Outcome) (U : State) : Prop := ∃ v L, o = .returned v ∧ Q v U.heap L ∧ CHr Z EL s.vm s.heap U.vm U.heap ∧ ReturnedEndW s o U L kc ks
def own_MetH (l : Launch) (y : MethodName) (bytes : ByteArray) (maxL : Nat) (ret : Option FieldType) (rm : Room) (Z : State) (EL : List (String × Nat)) (as' : Array Value) (h0 : Heap) (Q : Option Value → Heap → List Loc → Prop) : Prop :=
  ∀ ws : List Jvm.Cond, MetFree l y (head1 (Jvm.Cond.code y bytes maxL ret :: ws) rm) (fun a U => a = as' ∧ Z.Warmed39 U.vm ∧ U.heap = h0 ∧ CHv Z EL U.vm h0) (fun _ _ _ _ _ => True) (fun _ U o U' => ∃ v L, o = .returned v ∧ Q v U'.heap L ∧ CHr Z EL U.vm U.heap U'.vm U'.heap ∧ ReturnedEndW U o U' L rm.cells rm.slots)
theorem own_metH {y : MethodName} {bytes : ByteArray} {maxL : Nat} {ret : Option FieldType} {rm : Room} {as' : Array Value} {Q : Option Value → Heap → List Loc → Prop} (hp : plainFor y = true)
    (body : ∀ (p : Program) (e : Env) (s : State) (m : MethodId) (below : List Frame) (meth : Method) (c : Code) (T : State), p.tables.exec = Jvm.exec → c.code = bytes → c.maxLocals = maxL → Z.Warmed39 (s.setVm s.vm).vm → (s.setVm s.vm).vm.findClass y.cls = some m.cls → meth.name = y.name → meth.sig.returnType = ret → meth.locks = false →
      Stand p l e rm (s.setVm s.vm) m as' below meth c T [] 0 0 → T.heap = h0 → s.heap = h0 → own_H Z EL s h0 s.vm h0 → own_Ends p e below (own_PostH Z EL s Q rm.cells rm.slots) (T.setTop (entryFrame m as' maxL))) : own_MetH l y bytes maxL ret rm Z EL as' h0 Q := by
  intro ws
  refine MetFree.of_bodySF hp hisR ?_
  intro p e s m args below meth c s₁ Bd hml0 hP hK
  obtain ⟨rfl, hZ, hh, hC⟩ := hP
  exact body p e s m below meth c s₁ Bd.exec Bd.bytes hml0 hZ (findClass_of_methodNamed Bd.named) (name_of_methodNamed Bd.named Bd.method).1 Bd.returns (BodyLoose.notSynchronized Bd) (Stand.of_body Bd) (by rw [← hh, Bd.state]; rfl) hh ⟨hh, ⟨0, ⟨State.Warmed39.refl s, (State.WarmedH.refl s).no_new_pair 0⟩, Nat.zero_le _⟩, CHr.refl hC⟩
/-- a plain contract serves where an H one is asked -/
theorem own_leaveH (X : Stand p l e R (s.setVm vm0) m args below meth c T locs cells slots) (hlocks : meth.locks = false) {v : Option Value} (hv : meth.sig.returnType = none → v = none) (hZ : Z.Warmed39 (s.setVm vm0).vm) (eT : T.heap = h) (HH : own_H Z EL s h0 vm0 h) (hEL : EW Z a0 EL) {Q : Option Value → Heap → List Loc → Prop} {kc ks : Nat} (hc : cells ≤ kc) (hs : slots ≤ ks) (hq : Q v T.heap locs) {t : State}
    (step : ∀ fs, (∀ (f : JFrame) (acts : List Action), f.method = m → f.locked = none → f.entered = [] → (doReturn e (T.setTop f) acts v).1 = T.setFrames fs) → Steps p.tables e below t (T.setFrames fs)) : own_Ends p e below (own_PostH Z EL s Q kc ks) t := by
  obtain ⟨hh, ⟨k0, hS, hk⟩, hC⟩ := HH
  obtain ⟨fs, hr, hrun, hended, hE⟩ := X.leaveW hS (by rw [eT]; exact hk) (v := v) hv hlocks
  subst hh eT
  have A := hC.trans (CHv.at X hZ hEL hC.1)
  exact ⟨_, _, step fs hr, hrun, hended, v, locs, rfl, hq, A, hE.1, hE.2.1, hE.2.2.1, hE.2.2.2.mono hc hs⟩
theorem own_retNH (X : Stand p l e R (s.setVm vm0) m args below meth c T locs cells slots) (hx : p.tables.exec = Jvm.exec) (hZ : Z.Warmed39 (s.setVm vm0).vm) (eT : T.heap = h) (HH : own_H Z EL s h0 vm0 h) (hEL : EW Z a0 EL) (hlocks : meth.locks = false) {t : FieldType} (hret : meth.sig.returnType = some t) (ht : t = .boolean ∨ t = .byte ∨ t = .char ∨ t = .short) {pc : Nat} {Ls : Array Slot} {z : Int32} {rest : List Value} (hd : decode c.code pc = .ok (.ireturn, 1)) {Q : Option Value → Heap → List Loc → Prop} {kc ks : Nat} (hc : cells ≤ kc) (hs : slots ≤ ks) (hn : nar t z = z) (hq : Q (some (.int z)) T.heap locs) :
    own_Ends p e below (own_PostH Z EL s Q kc ks) (T.setTop (mkF m pc Ls (.int z :: rest))) :=
  own_leaveH X hlocks (v := some (.int (nar t z))) (fun h => by rw [hret] at h; cases h) hZ eT HH hEL hc hs (by rw [hn]; exact hq) (fun fs hr => retN X hx hret ht hd hr)
theorem own_retIH (X : Stand p l e R (s.setVm vm0) m args below meth c T locs cells slots) (hx : p.tables.exec = Jvm.exec) (hZ : Z.Warmed39 (s.setVm vm0).vm) (eT : T.heap = h) (HH : own_H Z EL s h0 vm0 h) (hEL : EW Z a0 EL) (hlocks : meth.locks = false) (hret : meth.sig.returnType = some .int) {pc : Nat} {Ls : Array Slot} {z : Int32} {rest : List Value} (hd : decode c.code pc = .ok (.ireturn, 1)) {Q : Option Value → Heap → List Loc → Prop} {kc ks : Nat} (hc : cells ≤ kc) (hs : slots ≤ ks) (hq : Q (some (.int z)) T.heap locs) :
    own_Ends p e below (own_PostH Z EL s Q kc ks) (T.setTop (mkF m pc Ls (.int z :: rest))) :=
  own_leaveH X hlocks (v := some (.int z)) (fun h => by rw [hret] at h; cases h) hZ eT HH hEL hc hs hq (fun fs hr => retOut X hx hret (w := .int z) rfl (Or.inl ⟨rfl, Or.inl rfl, z, rfl⟩) hd hr)
theorem own_retJH (X : Stand p l e R (s.setVm vm0) m args below meth c T locs cells slots) (hx : p.tables.exec = Jvm.exec) (hZ : Z.Warmed39 (s.setVm vm0).vm) (eT : T.heap = h) (HH : own_H Z EL s h0 vm0 h) (hEL : EW Z a0 EL) (hlocks : meth.locks = false) (hret : meth.sig.returnType = some .long) {pc : Nat} {Ls : Array Slot} {z : Int64} {rest : List Value} (hd : decode c.code pc = .ok (.lreturn, 1)) {Q : Option Value → Heap → List Loc → Prop} {kc ks : Nat} (hc : cells ≤ kc) (hs : slots ≤ ks) (hq : Q (some (.long z)) T.heap locs) :
    own_Ends p e below (own_PostH Z EL s Q kc ks) (T.setTop (mkF m pc Ls (.long z :: rest))) :=
  own_leaveH X hlocks (v := some (.long z)) (fun h => by rw [hret] at h; cases h) hZ eT HH hEL hc hs hq (fun fs hr => retOut X hx hret (w := .long z) rfl (Or.inr (Or.inl ⟨rfl, rfl, z, rfl⟩)) hd hr)
theorem own_retAH (X : Stand p l e R (s.setVm vm0) m args below meth c T locs cells slots) (hx : p.tables.exec = Jvm.exec) (hZ : Z.Warmed39 (s.setVm vm0).vm) (eT : T.heap = h) (HH : own_H Z EL s h0 vm0 h) (hEL : EW Z a0 EL) (hlocks : meth.locks = false) {t : FieldType} (hret : meth.sig.returnType = some t) (ht : t.isReference = true) {pc : Nat} {Ls : Array Slot} {w : Value} (hw : w.isRef = true) {rest : List Value} (hd : decode c.code pc = .ok (.areturn, 1)) {Q : Option Value → Heap → List Loc → Prop} {kc ks : Nat} (hc : cells ≤ kc) (hs : slots ≤ ks) (hq : Q (some w) T.heap locs) :
    own_Ends p e below (own_PostH Z EL s Q kc ks) (T.setTop (mkF m pc Ls (w :: rest))) :=
  own_leaveH X hlocks (v := some w) (fun h => by rw [hret] at h; cases h) hZ eT HH hEL hc hs hq (fun fs hr => retOut X hx hret (own_narR ht hw) (Or.inr (Or.inr (Or.inr (Or.inr ⟨rfl, ht, hw⟩)))) hd hr)
theorem own_retH (X : Stand p l e R (s.setVm vm0) m args below meth c T locs cells slots) (hx : p.tables.exec = Jvm.exec) (hZ : Z.Warmed39 (s.setVm vm0).vm) (eT : T.heap = h) (HH : own_H Z EL s h0 vm0 h) (hEL : EW Z a0 EL) (hlocks : meth.locks = false) (hret : meth.sig.returnType = none) {pc : Nat} {Ls : Array Slot} (hd : decode c.code pc = .ok (.return_, 1)) {Q : Option Value → Heap → List Loc → Prop} {kc ks : Nat} (hc : cells ≤ kc) (hs : slots ≤ ks) (hq : Q none T.heap locs) :
    own_Ends p e below (own_PostH Z EL s Q kc ks) (T.setTop (mkF m pc Ls [])) :=
  own_leaveH X hlocks (v := none) (fun _ => rfl) hZ eT HH hEL hc hs hq (fun fs hr => X.returnOut hx hret hd hr)
theorem own_staticH (X : Stand p l e R (s.setVm vm0) m args below meth c T locs cells slots) (hx : p.tables.exec = Jvm.exec) (hZ : Z.Warmed39 (s.setVm vm0).vm) {own : String} {index : Nat} {y : MethodName} {bytes : ByteArray} {maxL : Nat} {ret : Option FieldType} {rm : Room} {Q : Option Value → Heap → List Loc → Prop} (hown : (s.setVm vm0).vm.findClass own = some m.cls) (w1 : (Jvm.Cond.methodLink own index y).before a0 Z = true) (w2 : (Jvm.Cond.static y).before a0 Z = true) (w3 : (Jvm.Cond.initialized y.cls).before a0 Z = true) (w4 : (Jvm.Cond.code y bytes maxL ret).before a0 Z = true) (hy : y.cls ≠ "java/lang/invoke/MethodHandle" ∧ y.cls ≠ "java/lang/invoke/VarHandle") (HH : own_H Z EL s h0 vm0 h) (hEL : EW Z a0 EL) (eT : T.heap = h) (hf : rm.frames + 1 ≤ R.frames) {W : Nat} (hl : W + (maxL + 11) + rm.locals ≤ R.locals) (hc : cells + rm.cells ≤ R.cells) (hs : slots + rm.slots ≤ R.slots) {pc pc' : Nat} {Ls : Array Slot} (argsL rest : List Value) {st : List Value} (hsize : Ls.size = c.maxLocals) (hM : own_MetH l y bytes maxL ret rm Z EL argsL.toArray h Q)
    {ps : List FieldType} {r : Option FieldType} (hpd : parseMethodDescriptor y.desc = some ⟨ps, r⟩) (hlen : argsL.length = ps.length) (hst : st = argsL.reverse ++ rest) (hW : (rest.map fun v => v.category).sum = W) (hd : decode c.code pc = .ok (.invokestatic index, 3)) (hp : pc + 3 = pc') (k : ∀ v T' L, Stand p l e R (s.setVm T'.vm) m args below meth c T' (locs ++ L) (cells + rm.cells) (slots + rm.slots) → Q v T'.heap L → Z.Warmed39 (s.setVm T'.vm).vm → (s.setVm T'.vm).vm.findClass own = some m.cls → own_H Z EL s h0 T'.vm T'.heap → CHr Z EL vm0 h T'.vm T'.heap → own_Ends p e below Φ (T'.setTop (mkF m pc' Ls (v.toList ++ rest)))) : own_Ends p e below Φ (T.setTop (mkF m pc Ls st)) := by
  subst hp
  obtain ⟨v, _, ⟨T', L', k', n'⟩, -, X', hS', hgr, ⟨Lc, hQ, e1, e2, e3, hC⟩, st'⟩ :=  callSS X hx (y := y) hown (mvT hZ w1) (mvT hZ w2) (mvT hZ w3) (mvT hZ w4) hy (backOfSH (s := s) (vm0 := vm0) (W := W) (hM []) hZ w4 w3 hf hl hEL HH.ch) (g := mkF m pc Ls st) rfl hsize (argsL := argsL) (rest := rest) (lenOf hpd hlen) hst (by rw [← hW]; show 2 * 0 + _ ≤ _; omega) hd (fun _ _ => ⟨rfl, eT, hc, hs⟩)
  dsimp only [Pt.U, Pt.locs, Pt.cells, Pt.slots] at X' hS' hgr e1 e2 e3 hC st' hQ
  subst e1 e2 e3
  obtain ⟨hh, ⟨k0, hS, hk⟩, hC0⟩ := HH
  subst eT
  exact own_thru st' (k v T' Lc X' hQ (State.Warmed39.trans (t := s.setVm vm0) hZ hS'.1) (by rw [show (s.setVm T'.vm).vm = T'.vm from rfl, hS'.1.alike.findClass]; exact hown) ⟨hh, ⟨_, hS.trans hS' (Nat.le_trans hk hgr), Nat.le_refl _⟩, hC0.trans hC⟩ hC)
theorem own_specialH (X : Stand p l e R (s.setVm vm0) m args below meth c T locs cells slots) (hx : p.tables.exec = Jvm.exec) (hZ : Z.Warmed39 (s.setVm vm0).vm) {own : String} {index : Nat} {y : MethodName} {bytes : ByteArray} {maxL : Nat} {rm : Room} {Q : Option Value → Heap → List Loc → Prop} (hy1 : y.name = "<init>") (hown : (s.setVm vm0).vm.findClass own = some m.cls) (w1 : (Jvm.Cond.methodLink own index y).before a0 Z = true) (w2 : (Jvm.Cond.instanceMethod y).before a0 Z = true) (w3 : (Jvm.Cond.initialized y.cls).before a0 Z = true) (w4 : (Jvm.Cond.code y bytes maxL none).before a0 Z = true) (hy : y.cls ≠ "java/lang/invoke/MethodHandle" ∧ y.cls ≠ "java/lang/invoke/VarHandle") (HH : own_H Z EL s h0 vm0 h) (hEL : EW Z a0 EL) (eT : T.heap = h) (hf : rm.frames + 1 ≤ R.frames) {W : Nat} (hl : W + (maxL + 11) + rm.locals ≤ R.locals) (hc : cells + rm.cells ≤ R.cells) (hs : slots + rm.slots ≤ R.slots) {pc pc' : Nat} {Ls : Array Slot} (argsL rest : List Value) {st : List Value} (hsize : Ls.size = c.maxLocals) {a : Addr} (hM : own_MetH l y bytes maxL none rm Z EL (.ref a :: argsL).toArray h Q)
    {ps : List FieldType} {r : Option FieldType} (hpd : parseMethodDescriptor y.desc = some ⟨ps, r⟩) (hlen : argsL.length = ps.length) (hst : st = argsL.reverse ++ .ref a :: rest) (hW : (rest.map fun v => v.category).sum = W) (hd : decode c.code pc = .ok (.invokespecial index, 3)) (hp : pc + 3 = pc') (k : ∀ v T' L, Stand p l e R (s.setVm T'.vm) m args below meth c T' (locs ++ L) (cells + rm.cells) (slots + rm.slots) → Q v T'.heap L → Z.Warmed39 (s.setVm T'.vm).vm → (s.setVm T'.vm).vm.findClass own = some m.cls → own_H Z EL s h0 T'.vm T'.heap → CHr Z EL vm0 h T'.vm T'.heap → own_Ends p e below Φ (T'.setTop (mkF m pc' Ls (v.toList ++ rest)))) : own_Ends p e below Φ (T.setTop (mkF m pc Ls st)) := by
  subst hp
  obtain ⟨v, _, ⟨T', L', k', n'⟩, -, X', hS', hgr, ⟨Lc, hQ, e1, e2, e3, hC⟩, st'⟩ :=  X.specialBackS hx (y := y) hy1 hown (mvT hZ w1) (mvT hZ w2) (mvT hZ w4) hy (backOfSH (s := s) (vm0 := vm0) (W := W) (hM []) hZ w4 w3 hf hl hEL HH.ch) (g := mkF m pc Ls st) rfl hsize (Steps.refl _) (a := a) (argsL := argsL) (rest := rest) (lenOf hpd hlen) hst (by rw [← hW]; show 2 * 0 + _ ≤ _; omega) hd (fun _ _ => ⟨rfl, eT, hc, hs⟩)
  dsimp only [Pt.U, Pt.locs, Pt.cells, Pt.slots] at X' hS' hgr e1 e2 e3 hC st' hQ
  subst e1 e2 e3
  obtain ⟨hh, ⟨k0, hS, hk⟩, hC0⟩ := HH
  subst eT
  exact own_thru st' (k v T' Lc X' hQ (State.Warmed39.trans (t := s.setVm vm0) hZ hS'.1) (by rw [show (s.setVm T'.vm).vm = T'.vm from rfl, hS'.1.alike.findClass]; exact hown) ⟨hh, ⟨_, hS.trans hS' (Nat.le_trans hk hgr), Nat.le_refl _⟩, hC0.trans hC⟩ hC)
theorem own_virtualH (X : Stand p l e R (s.setVm vm0) m args below meth c T locs cells slots) (hx : p.tables.exec = Jvm.exec) (hZ : Z.Warmed39 (s.setVm vm0).vm) {own C : String} {index : Nat} {y z : MethodName} {bytes : ByteArray} {maxL : Nat} {ret : Option FieldType} {rm : Room} {Q : Option Value → Heap → List Loc → Prop} (hown : (s.setVm vm0).vm.findClass own = some m.cls) (w1 : (Jvm.Cond.methodLink own index y).before a0 Z = true) (w2 : (Jvm.Cond.declares y).before a0 Z = true) (hnf : NotFace (s.setVm vm0) y) (w3 : (Jvm.Cond.selects C y z).before a0 Z = true) (w4 : (Jvm.Cond.instanceMethod z).before a0 Z = true) (w5 : (Jvm.Cond.initialized z.cls).before a0 Z = true) (w6 : (Jvm.Cond.code z bytes maxL ret).before a0 Z = true) (hy : y.cls ≠ "java/lang/invoke/MethodHandle" ∧ y.cls ≠ "java/lang/invoke/VarHandle") (HH : own_H Z EL s h0 vm0 h) (hEL : EW Z a0 EL) (eT : T.heap = h) (hf : rm.frames + 1 ≤ R.frames) {W : Nat} (hl : W + (maxL + 11) + rm.locals ≤ R.locals) (hc : cells + rm.cells ≤ R.cells) (hs : slots + rm.slots ≤ R.slots) {pc pc' : Nat} {Ls : Array Slot} (argsL rest : List Value) {st : List Value} (hsize : Ls.size = c.maxLocals) {a : Addr} (E : Exa Z h a C) (hM : own_MetH l z bytes maxL ret rm Z EL (.ref a :: argsL).toArray h Q)
    {ps : List FieldType} {r : Option FieldType} (hpd : parseMethodDescriptor y.desc = some ⟨ps, r⟩) (hlen : argsL.length = ps.length) (hst : st = argsL.reverse ++ .ref a :: rest) (hW : (rest.map fun v => v.category).sum = W) (hd : decode c.code pc = .ok (.invokevirtual index, 3)) (hp : pc + 3 = pc') (k : ∀ v T' L, Stand p l e R (s.setVm T'.vm) m args below meth c T' (locs ++ L) (cells + rm.cells) (slots + rm.slots) → Q v T'.heap L → Z.Warmed39 (s.setVm T'.vm).vm → (s.setVm T'.vm).vm.findClass own = some m.cls → own_H Z EL s h0 T'.vm T'.heap → CHr Z EL vm0 h T'.vm T'.heap → own_Ends p e below Φ (T'.setTop (mkF m pc' Ls (v.toList ++ rest)))) : own_Ends p e below Φ (T.setTop (mkF m pc Ls st)) := by
  subst hp
  obtain ⟨cq, kq, q1, q2, q3⟩ := isOf hZ eT E
  obtain ⟨v, _, ⟨T', L', k', n'⟩, -, X', hS', hgr, ⟨Lc, hQ, e1, e2, e3, hC⟩, st'⟩ :=  X.virtualBackS hx (y := y) (z := z) hown (mvT hZ w1) (mvT hZ w2) hnf (mvT hZ w3) (mvT hZ w4) hy (backOfSH (s := s) (vm0 := vm0) (W := W) (hM []) hZ w6 w5 hf hl hEL HH.ch) q1 q3 (g := mkF m pc Ls st) rfl hsize (Steps.refl _) (argsL := argsL) (rest := rest) (lenOf hpd hlen) hst (by rw [← hW]; show 2 * 0 + _ ≤ _; omega) hd (fun _ _ => ⟨rfl, eT, hc, hs⟩)
  dsimp only [Pt.U, Pt.locs, Pt.cells, Pt.slots] at X' hS' hgr e1 e2 e3 hC st' hQ
  subst e1 e2 e3
  obtain ⟨hh, ⟨k0, hS, hk⟩, hC0⟩ := HH
  subst eT
  exact own_thru st' (k v T' Lc X' hQ (State.Warmed39.trans (t := s.setVm vm0) hZ hS'.1) (by rw [show (s.setVm T'.vm).vm = T'.vm from rfl, hS'.1.alike.findClass]; exact hown) ⟨hh, ⟨_, hS.trans hS' (Nat.le_trans hk hgr), Nat.le_refl _⟩, hC0.trans hC⟩ hC)
/-- ldc of a String literal, its text read -/
theorem own_ldcS (X : Stand p l e R (s.setVm vm0) m args below meth c T locs cells slots) (hx : p.tables.exec = Jvm.exec) (hZ : Z.Warmed39 (s.setVm vm0).vm) {own text : String} {index : Nat} (hown : (s.setVm vm0).vm.findClass own = some m.cls) (w : (Jvm.Cond.stringLink own index text).before a0 Z = true) (wS : ∀ a ∈ Bundle.stringAtoms, a.before a0 Z = true) (eT : T.heap = h) (HH : own_H Z EL s h0 vm0 h) (hEL : EW Z a0 EL) (hmem : (own, index) ∈ EL)
    {vs : List Value} {z : Int32} (ht : (∀ c ∈ text.toList, c.toNat < 256) ∧ text.toList.map (fun c => Value.int (Jvm.Lit.byteI c.toNat.toUInt16)) = vs) (hz : ¬ z < 0) (hl : z.toNatClampNeg = vs.length) {pc pc' : Nat} {Ls : Array Slot} {rest : List Value} (hd : decode c.code pc = .ok (.ldc index, 2)) (n : Nat) (hn : 4 * text.toList.length ≤ n) (hbig : n ≤ 536870912) (hc : cells + 2 ≤ R.cells) (hl' : slots + (n + 4) ≤ R.slots) (hp : pc + 2 = pc')
    (k : ∀ (a : Addr) (T' : State) (h' : Heap) (b : Addr) (kk : ClassId), Stand p l e R (s.setVm T'.vm) m args below meth c T' locs (cells + 2) (slots + (n + 4)) → T'.heap = h' → Ext h h' → Z.Warmed39 (s.setVm T'.vm).vm → (s.setVm T'.vm).vm.findClass own = some m.cls → own_H Z EL s h0 T'.vm h' → CHr Z EL vm0 h T'.vm h' → Exa Z h' a "java/lang/String" → Fld Z h' a "java/lang/String" "coder" "B" (.int 0) → Fld Z h' a "java/lang/String" "value" "[B" (.ref b) → Arv Z h' b kk .byte z vs (.int 0) → (∀ x, Safe Z EL T'.vm h' x → x ≠ a ∧ x ≠ b) → own_Ends p e below Φ (T'.setTop (mkF m pc' Ls (.ref a :: rest)))) : own_Ends p e below Φ (T.setTop (mkF m pc Ls rest)) := by
  subst hp
  obtain ⟨hh, ⟨k0, hS, hk⟩, hC0⟩ := HH
  obtain ⟨a, T', h', k1, b, kk, X', e', E', hS', hk', hZ', hown', A', c', v', V', -, -, hC, -, hne, st⟩ := ldcCH X hx hZ hown w wS eT hS hk hEL hmem hC0.1 ht hz hl (g := mkF m pc Ls rest) rfl hd hn hbig hc hl'
  exact own_via st (k a T' h' b kk X' e' E' hZ' hown' ⟨hh, ⟨k1, hS', hk'⟩, hC0.trans hC⟩ hC A' c' v' V' hne)
theorem own_retDH (X : Stand p l e R (s.setVm vm0) m args below meth c T locs cells slots) (hx : p.tables.exec = Jvm.exec) (hZ : Z.Warmed39 (s.setVm vm0).vm) (eT : T.heap = h) (HH : own_H Z EL s h0 vm0 h) (hEL : EW Z a0 EL) (hlocks : meth.locks = false) (hret : meth.sig.returnType = some .double) {pc : Nat} {Ls : Array Slot} {z : UInt64} {rest : List Value} (hd : decode c.code pc = .ok (.dreturn, 1)) {Q : Option Value → Heap → List Loc → Prop} {kc ks : Nat} (hc : cells ≤ kc) (hs : slots ≤ ks) (hq : Q (some (.double z)) T.heap locs) :
    own_Ends p e below (own_PostH Z EL s Q kc ks) (T.setTop (mkF m pc Ls (.double z :: rest))) :=
  own_leaveH X hlocks (v := some (.double z)) (fun h => by rw [hret] at h; cases h) hZ eT HH hEL hc hs hq (fun fs hr => retOut X hx hret (w := .double z) rfl (Or.inr (Or.inr (Or.inl ⟨rfl, rfl, z, rfl⟩))) hd hr)
end OwnKitH
section OwnKitB
variable {p : Program} {l : Launch} {e : Env} {R : Room} {s : State} {m : MethodId} {args : Array Value} {below : List Frame} {meth : Method} {c : Code} {T : State} {locs : List Loc} {cells slots : Nat} {Z : State} {a0 : Array Value} {h : Heap} {Φ : Outcome → State → Prop}
theorem own_staticB (X : Stand p l e R s m args below meth c T locs cells slots) (hx : p.tables.exec = Jvm.exec) (hZ : Z.Warmed39 s.vm) {own : String} {index : Nat} {y : MethodName} {bytes : ByteArray} {maxL : Nat} {ret : Option FieldType} (hown : s.vm.findClass own = some m.cls) (w1 : (Jvm.Cond.methodLink own index y).before a0 Z = true) (w2 : (Jvm.Cond.static y).before a0 Z = true) (w3 : (Jvm.Cond.initialized y.cls).before a0 Z = true) (w4 : (Jvm.Cond.code y bytes maxL ret).before a0 Z = true) (hy : y.cls ≠ "java/lang/invoke/MethodHandle" ∧ y.cls ≠ "java/lang/invoke/VarHandle") {ce sl : Nat} (eT : T.heap = h) {W : Nat} (hc : cells + ce ≤ R.cells) (hs : slots + sl ≤ R.slots) {pc pc' : Nat} {Ls : Array Slot} (argsL rest : List Value) {st : List Value} (hsize : Ls.size = c.maxLocals) (Q : Option Value → Heap → List Loc → Prop) (hK : Back l R p e below s args y 3 W (fun P a' => a' = argsL.toArray ∧ P.U.heap = h ∧ P.cells + ce ≤ R.cells ∧ P.slots + sl ≤ R.slots) (fun P _ v B => ∃ L, Q v B.U.heap L ∧ B.locs = P.locs ++ L ∧ B.cells = P.cells + ce ∧ B.slots = P.slots + sl))
    {ps : List FieldType} {r : Option FieldType} (hpd : parseMethodDescriptor y.desc = some ⟨ps, r⟩) (hlen : argsL.length = ps.length) (hst : st = argsL.reverse ++ rest) (hW : (rest.map fun v => v.category).sum = W) (hd : decode c.code pc = .ok (.invokestatic index, 3)) (hp : pc + 3 = pc') (k : ∀ v T' L, Stand p l e R s m args below meth c T' (locs ++ L) (cells + ce) (slots + sl) → Q v T'.heap L → own_Ends p e below Φ (T'.setTop (mkF m pc' Ls (v.toList ++ rest)))) : own_Ends p e below Φ (T.setTop (mkF m pc Ls st)) := by
  subst hp
  obtain ⟨v, _, ⟨T', L', k', n'⟩, -, X', ⟨Lc, hQ, e1, e2, e3⟩, st'⟩ :=  Jvm.LawKit.callS X hx (y := y) hown (mvT hZ w1) (mvT hZ w2) (mvT hZ w3) (mvT hZ w4) hy hK (g := mkF m pc Ls st) rfl hsize (argsL := argsL) (rest := rest) (lenOf hpd hlen) hst (by rw [← hW]; show 2 * 0 + _ ≤ _; omega) hd (fun _ _ => ⟨rfl, eT, hc, hs⟩)
  dsimp only [Pt.U, Pt.locs, Pt.cells, Pt.slots] at X' e1 e2 e3 st' hQ
  subst e1 e2 e3
  exact own_via st' (k v T' Lc X' hQ)
theorem own_specialB (X : Stand p l e R s m args below meth c T locs cells slots) (hx : p.tables.exec = Jvm.exec) (hZ : Z.Warmed39 s.vm) {own : String} {index : Nat} {y : MethodName} {bytes : ByteArray} {maxL : Nat} (hy1 : y.name = "<init>") (hown : s.vm.findClass own = some m.cls) (w1 : (Jvm.Cond.methodLink own index y).before a0 Z = true) (w2 : (Jvm.Cond.instanceMethod y).before a0 Z = true) (w4 : (Jvm.Cond.code y bytes maxL none).before a0 Z = true) (hy : y.cls ≠ "java/lang/invoke/MethodHandle" ∧ y.cls ≠ "java/lang/invoke/VarHandle") {ce sl : Nat} (eT : T.heap = h) {W : Nat} (hc : cells + ce ≤ R.cells) (hs : slots + sl ≤ R.slots) {pc pc' : Nat} {Ls : Array Slot} (argsL rest : List Value) {st : List Value} (hsize : Ls.size = c.maxLocals) {a : Addr} (Q : Option Value → Heap → List Loc → Prop) (hK : Back l R p e below s args y 3 W (fun P a' => a' = (.ref a :: argsL).toArray ∧ P.U.heap = h ∧ P.cells + ce ≤ R.cells ∧ P.slots + sl ≤ R.slots) (fun P _ v B => ∃ L, Q v B.U.heap L ∧ B.locs = P.locs ++ L ∧ B.cells = P.cells + ce ∧ B.slots = P.slots + sl))
    {ps : List FieldType} {r : Option FieldType} (hpd : parseMethodDescriptor y.desc = some ⟨ps, r⟩) (hlen : argsL.length = ps.length) (hst : st = argsL.reverse ++ .ref a :: rest) (hW : (rest.map fun v => v.category).sum = W) (hd : decode c.code pc = .ok (.invokespecial index, 3)) (hp : pc + 3 = pc') (k : ∀ v T' L, Stand p l e R s m args below meth c T' (locs ++ L) (cells + ce) (slots + sl) → Q v T'.heap L → own_Ends p e below Φ (T'.setTop (mkF m pc' Ls (v.toList ++ rest)))) : own_Ends p e below Φ (T.setTop (mkF m pc Ls st)) := by
  subst hp
  obtain ⟨v, _, ⟨T', L', k', n'⟩, -, X', ⟨Lc, hQ, e1, e2, e3⟩, st'⟩ :=  X.specialBack hx (y := y) hy1 hown (mvT hZ w1) (mvT hZ w2) (mvT hZ w4) hy hK (g := mkF m pc Ls st) rfl hsize (Steps.refl _) (a := a) (argsL := argsL) (rest := rest) (lenOf hpd hlen) hst (by rw [← hW]; show 2 * 0 + _ ≤ _; omega) hd (fun _ _ => ⟨rfl, eT, hc, hs⟩)
  dsimp only [Pt.U, Pt.locs, Pt.cells, Pt.slots] at X' e1 e2 e3 st' hQ
  subst e1 e2 e3
  exact own_thru st' (k v T' Lc X' hQ)
theorem own_virtualB (X : Stand p l e R s m args below meth c T locs cells slots) (hx : p.tables.exec = Jvm.exec) (hZ : Z.Warmed39 s.vm) {own C : String} {index : Nat} {y z : MethodName} (hown : s.vm.findClass own = some m.cls) (w1 : (Jvm.Cond.methodLink own index y).before a0 Z = true) (w2 : (Jvm.Cond.declares y).before a0 Z = true) (hnf : NotFace s y) (w3 : (Jvm.Cond.selects C y z).before a0 Z = true) (w4 : (Jvm.Cond.instanceMethod z).before a0 Z = true) (hy : y.cls ≠ "java/lang/invoke/MethodHandle" ∧ y.cls ≠ "java/lang/invoke/VarHandle") {ce sl : Nat} (eT : T.heap = h) {W : Nat} (hc : cells + ce ≤ R.cells) (hs : slots + sl ≤ R.slots) {pc pc' : Nat} {Ls : Array Slot} (argsL rest : List Value) {st : List Value} (hsize : Ls.size = c.maxLocals) {a : Addr} (E : Exa Z h a C) (Q : Option Value → Heap → List Loc → Prop) (hK : Back l R p e below s args z 3 W (fun P a' => a' = (.ref a :: argsL).toArray ∧ P.U.heap = h ∧ P.cells + ce ≤ R.cells ∧ P.slots + sl ≤ R.slots) (fun P _ v B => ∃ L, Q v B.U.heap L ∧ B.locs = P.locs ++ L ∧ B.cells = P.cells + ce ∧ B.slots = P.slots + sl))
    {ps : List FieldType} {r : Option FieldType} (hpd : parseMethodDescriptor y.desc = some ⟨ps, r⟩) (hlen : argsL.length = ps.length) (hst : st = argsL.reverse ++ .ref a :: rest) (hW : (rest.map fun v => v.category).sum = W) (hd : decode c.code pc = .ok (.invokevirtual index, 3)) (hp : pc + 3 = pc') (k : ∀ v T' L, Stand p l e R s m args below meth c T' (locs ++ L) (cells + ce) (slots + sl) → Q v T'.heap L → own_Ends p e below Φ (T'.setTop (mkF m pc' Ls (v.toList ++ rest)))) : own_Ends p e below Φ (T.setTop (mkF m pc Ls st)) := by
  subst hp
  obtain ⟨cq, kq, q1, q2, q3⟩ := isOf hZ eT E
  obtain ⟨v, _, ⟨T', L', k', n'⟩, -, X', ⟨Lc, hQ, e1, e2, e3⟩, st'⟩ :=  X.virtualBack hx (y := y) (z := z) hown (mvT hZ w1) (mvT hZ w2) hnf (mvT hZ w3) (mvT hZ w4) hy hK q1 q3 (g := mkF m pc Ls st) rfl hsize (Steps.refl _) (argsL := argsL) (rest := rest) (lenOf hpd hlen) hst (by rw [← hW]; show 2 * 0 + _ ≤ _; omega) hd (fun _ _ => ⟨rfl, eT, hc, hs⟩)
  dsimp only [Pt.U, Pt.locs, Pt.cells, Pt.slots] at X' e1 e2 e3 st' hQ
  subst e1 e2 e3
  exact own_thru st' (k v T' Lc X' hQ)
theorem own_iface (X : Stand p l e R s m args below meth c T locs cells slots) (hx : p.tables.exec = Jvm.exec) (hZ : Z.Warmed39 s.vm) {own C : String} {index count : Nat} {xi y : MethodName} {bytes : ByteArray} {maxL : Nat} {ret : Option FieldType} {rm : Room} {Q : Option Value → Heap → List Loc → Prop} (hown : s.vm.findClass own = some m.cls) (w1 : (Jvm.Cond.methodLink own index xi).before a0 Z = true) (w2 : (Jvm.Cond.declares xi).before a0 Z = true) (wf : (Jvm.Cond.interfaceMethod xi.cls xi.cls xi.name xi.desc).before args s = true) (w3 : (Jvm.Cond.selects C xi y).before a0 Z = true) (w4 : (Jvm.Cond.instanceMethod y).before a0 Z = true) (wp : (Jvm.Cond.publicMethod y).before a0 Z = true) (wu : (Jvm.Cond.unhidden C xi.name xi.desc).before a0 Z = true) (wc : (Jvm.Cond.castable C xi.cls).before a0 Z = true) (w5 : (Jvm.Cond.initialized y.cls).before a0 Z = true) (w6 : (Jvm.Cond.code y bytes maxL ret).before a0 Z = true) (hy : xi.cls ≠ "java/lang/invoke/MethodHandle" ∧ xi.cls ≠ "java/lang/invoke/VarHandle") (eT : T.heap = h) (hf : rm.frames + 1 ≤ R.frames) {W : Nat} (hl : W + (maxL + 11) + rm.locals ≤ R.locals) (hc : cells + rm.cells ≤ R.cells) (hs : slots + rm.slots ≤ R.slots) {pc pc' : Nat} {Ls : Array Slot} (argsL rest : List Value) {st : List Value} (hsize : Ls.size = c.maxLocals) {a : Addr} (E : Exa Z h a C) (hM : own_Met l y bytes maxL ret rm Z (.ref a :: argsL).toArray h Q)
    {ps : List FieldType} {r : Option FieldType} (hpd : parseMethodDescriptor xi.desc = some ⟨ps, r⟩) (hlen : argsL.length = ps.length) (hst : st = argsL.reverse ++ .ref a :: rest) (hW : (rest.map fun v => v.category).sum = W) (hd : decode c.code pc = .ok (.invokeinterface index count, 5)) (hp : pc + 5 = pc') (k : ∀ v T' L, Stand p l e R s m args below meth c T' (locs ++ L) (cells + rm.cells) (slots + rm.slots) → Q v T'.heap L → own_Ends p e below Φ (T'.setTop (mkF m pc' Ls (v.toList ++ rest)))) : own_Ends p e below Φ (T.setTop (mkF m pc Ls st)) := by
  subst hp
  obtain ⟨cq, kq, q1, q2, q3⟩ := isOf hZ eT E
  obtain ⟨v, _, ⟨T', L', k', n'⟩, -, X', ⟨Lc, hQ, e1, e2, e3⟩, st'⟩ :=  X.interfaceBack hx (xi := xi) (y := y) hown (mvT hZ w1) (mvT hZ w2) wf (mvT hZ w3) (mvT hZ w4) (mvT hZ wp) (mvT hZ wu) (mvT hZ wc) hy (backOf (W := W) (hM []) hZ w6 w5 hf hl) q1 q2 q3 (g := mkF m pc Ls st) rfl hsize (Steps.refl _) (argsL := argsL) (rest := rest) (lenOf hpd hlen) hst (by rw [← hW]; show 2 * 0 + _ ≤ _; omega) hd (fun _ _ => ⟨rfl, eT, hc, hs⟩)
  dsimp only [Pt.U, Pt.locs, Pt.cells, Pt.slots] at X' e1 e2 e3 st' hQ
  subst e1 e2 e3
  exact own_thru st' (k v T' Lc X' hQ)
theorem own_insK {h' : Heap} {a : Addr} {C : String} {b : Bool} {ws : List Addr} (F : Ins Z h a C b) (K : Keep h h' ws) : Ins Z h' a C b := by
  obtain ⟨cell, cT, h1, h2, h3⟩ := F
  obtain ⟨c', q, r1, r2, -⟩ := K.2.2 a cell h1
  exact ⟨c', cT, q, h2, by rw [r1, r2]; exact h3⟩
end OwnKitB
section OwnKitA
variable {p : Program} {l : Launch} {e : Env} {R : Room} {s : State} {m : MethodId} {args : Array Value} {below : List Frame} {meth : Method} {c : Code} {T : State} {locs : List Loc} {cells slots : Nat} {Z : State} {a0 : Array Value} {h : Heap} {Φ : Outcome → State → Prop}
theorem own_newP (X : Stand p l e R s m args below meth c T locs cells slots) (hx : p.tables.exec = Jvm.exec) (hZ : Z.Warmed39 s.vm) {aty : ArrayType} (w : (Jvm.Cond.arrayClass (newarray.typeOf aty)).before a0 Z = true) (eT : T.heap = h) {pc pc' : Nat} {Ls : Array Slot} {rest : List Value} {n : Int32} (hd : decode c.code pc = .ok (.newarray aty, 2)) (hn : ¬ n < 0) (cap : Nat) (hcap : n.toNatClampNeg ≤ cap) (hb : cap * 8 ≤ 536870912) (hc : cells + 1 ≤ R.cells) (hl : slots + cap ≤ R.slots) (hp : pc + 2 = pc')
    (k : ∀ T' h' b kk, Stand p l e R s m args below meth c T' locs (cells + 1) (slots + cap) → T'.heap = h' → b = h.size → Ext h h' → Arv Z h' b kk (newarray.typeOf aty) n [] (defaultValue (newarray.typeOf aty)) → own_Ends p e below Φ (T'.setTop (mkF m pc' Ls (.ref b :: rest)))) : own_Ends p e below Φ (T.setTop (mkF m pc Ls (.int n :: rest))) := by
  subst hp; obtain ⟨T', h', cA, X', e', E', A', st⟩ := newP X hx hZ w eT (g := mkF m pc Ls (.int n :: rest)) rfl hd rfl hn hcap hb hc hl
  exact own_via st (k T' h' _ cA X' e' rfl E' (Arv.new A' hn))
theorem own_stC (X : Stand p l e R s m args below meth c T locs cells slots) (hx : p.tables.exec = Jvm.exec) (hZ : Z.Warmed39 s.vm) (eT : T.heap = h) {a : Addr} {kk : ClassId} {z : Int32} {vs : List Value} {dv : Value} (A : Arv Z h a kk .char z vs dv) {j : Int32} {x : Int32} (hj : ¬ j < 0 ∧ j < z) (i : Nat) (hi : j.toNatClampNeg = i) (hlen : i < vs.length) (hn : nar .char x = x) {n0 : Nat} (N : Fr n0 locs) (g : n0 ≤ a) {pc pc' : Nat} {Ls : Array Slot} {rest : List Value} (hd : decode c.code pc = .ok (.castore, 1)) (hp : pc + 1 = pc')
    (k : ∀ T' h', Stand p l e R s m args below meth c T' (locs ++ [⟨a, j.toNatClampNeg⟩]) cells slots → T'.heap = h' → Wr h h' a j.toNatClampNeg (.int x) → Fr n0 (locs ++ [⟨a, j.toNatClampNeg⟩]) → Arv Z h' a kk .char z (vs.set i (.int x)) dv → own_Ends p e below Φ (T'.setTop (mkF m pc' Ls rest))) : own_Ends p e below Φ (T.setTop (mkF m pc Ls (.int x :: .int j :: .ref a :: rest))) := by
  subst hp; obtain ⟨cl, Ar, q, S, Nn, H, G⟩ := A
  obtain ⟨T', h', X', e', W', st⟩ := Jvm.RoadKit.stC X hx hZ eT Ar (j := j) (x := x) (inb_of S hj) (g := mkF m pc Ls (.int x :: .int j :: .ref a :: rest)) rfl rfl hd
  have W' : Wr h h' a j.toNatClampNeg (.int (nar .char x)) := W'
  have hf := fits_nar_char x
  rw [hn] at W' hf
  exact own_via st (k T' h' X' e' W' (Fr.snoc X' N g) (Arv.set Ar q S Nn H G hf W' i hi hlen))
theorem own_stI (X : Stand p l e R s m args below meth c T locs cells slots) (hx : p.tables.exec = Jvm.exec) (hZ : Z.Warmed39 s.vm) (eT : T.heap = h) {a : Addr} {kk : ClassId} {z : Int32} {vs : List Value} {dv : Value} (A : Arv Z h a kk .int z vs dv) {j : Int32} {x : Int32} (hj : ¬ j < 0 ∧ j < z) (i : Nat) (hi : j.toNatClampNeg = i) (hlen : i < vs.length) {n0 : Nat} (N : Fr n0 locs) (g : n0 ≤ a) {pc pc' : Nat} {Ls : Array Slot} {rest : List Value} (hd : decode c.code pc = .ok (.iastore, 1)) (hp : pc + 1 = pc')
    (k : ∀ T' h', Stand p l e R s m args below meth c T' (locs ++ [⟨a, j.toNatClampNeg⟩]) cells slots → T'.heap = h' → Wr h h' a j.toNatClampNeg (.int x) → Fr n0 (locs ++ [⟨a, j.toNatClampNeg⟩]) → Arv Z h' a kk .int z (vs.set i (.int x)) dv → own_Ends p e below Φ (T'.setTop (mkF m pc' Ls rest))) : own_Ends p e below Φ (T.setTop (mkF m pc Ls (.int x :: .int j :: .ref a :: rest))) := by
  subst hp; obtain ⟨cl, Ar, q, S, Nn, H, G⟩ := A
  obtain ⟨T', h', X', e', W', st⟩ := Jvm.RoadKit.stI X hx hZ eT Ar (j := j) (x := x) (inb_of S hj) (g := mkF m pc Ls (.int x :: .int j :: .ref a :: rest)) rfl rfl hd
  skip
  exact own_via st (k T' h' X' e' W' (Fr.snoc X' N g) (Arv.set Ar q S Nn H G rfl W' i hi hlen))
theorem own_stB (X : Stand p l e R s m args below meth c T locs cells slots) (hx : p.tables.exec = Jvm.exec) (hZ : Z.Warmed39 s.vm) (eT : T.heap = h) {a : Addr} {kk : ClassId} {z : Int32} {vs : List Value} {dv : Value} (A : Arv Z h a kk .byte z vs dv) {j : Int32} {x : Int32} (hj : ¬ j < 0 ∧ j < z) (i : Nat) (hi : j.toNatClampNeg = i) (hlen : i < vs.length) (hn : x.toInt8.toInt32 = x) {n0 : Nat} (N : Fr n0 locs) (g : n0 ≤ a) {pc pc' : Nat} {Ls : Array Slot} {rest : List Value} (hd : decode c.code pc = .ok (.bastore, 1)) (hp : pc + 1 = pc')
    (k : ∀ T' h', Stand p l e R s m args below meth c T' (locs ++ [⟨a, j.toNatClampNeg⟩]) cells slots → T'.heap = h' → Wr h h' a j.toNatClampNeg (.int x) → Fr n0 (locs ++ [⟨a, j.toNatClampNeg⟩]) → Arv Z h' a kk .byte z (vs.set i (.int x)) dv → own_Ends p e below Φ (T'.setTop (mkF m pc' Ls rest))) : own_Ends p e below Φ (T.setTop (mkF m pc Ls (.int x :: .int j :: .ref a :: rest))) := by
  subst hp; obtain ⟨cl, Ar, q, S, Nn, H, G⟩ := A
  obtain ⟨T', h', X', e', W', st⟩ := Jvm.RoadKit.stB X hx hZ eT Ar (j := j) (x := x) (inb_of S hj) (g := mkF m pc Ls (.int x :: .int j :: .ref a :: rest)) rfl rfl hd
  have W' : Wr h h' a j.toNatClampNeg (.int x.toInt8.toInt32) := W'
  have hf := fits_nar_byte x
  rw [hn] at W' hf
  exact own_via st (k T' h' X' e' W' (Fr.snoc X' N g) (Arv.set Ar q S Nn H G hf W' i hi hlen))
theorem own_stR (X : Stand p l e R s m args below meth c T locs cells slots) (hx : p.tables.exec = Jvm.exec) (hZ : Z.Warmed39 s.vm) (eT : T.heap = h) {a : Addr} {kk : ClassId} {z : Int32} {ty : FieldType} {vs : List Value} {dv : Value} (A : Arv Z h a kk ty z vs dv) (hty : ty.isReference = true) {j : Int32} {v : Value} (hv : fits ty v = true) (F : Sto Z h a v) (hj : ¬ j < 0 ∧ j < z) (i : Nat) (hi : j.toNatClampNeg = i) (hlen : i < vs.length) {n0 : Nat} (N : Fr n0 locs) (g : n0 ≤ a) {pc pc' : Nat} {Ls : Array Slot} {rest : List Value} (hd : decode c.code pc = .ok (.aastore, 1)) (hp : pc + 1 = pc')
    (k : ∀ T' h', Stand p l e R s m args below meth c T' (locs ++ [⟨a, j.toNatClampNeg⟩]) cells slots → T'.heap = h' → Wr h h' a j.toNatClampNeg v → Fr n0 (locs ++ [⟨a, j.toNatClampNeg⟩]) → Arv Z h' a kk ty z (vs.set i v) dv → own_Ends p e below Φ (T'.setTop (mkF m pc' Ls rest))) : own_Ends p e below Φ (T.setTop (mkF m pc Ls (v :: .int j :: .ref a :: rest))) := by
  subst hp; obtain ⟨cl, Ar, q, S, Nn, H, G⟩ := A
  obtain ⟨T', h', X', e', W', st⟩ := Jvm.RoadKit.stR X hx hZ eT Ar (j := j) (inb_of S hj) hty F (g := mkF m pc Ls (v :: .int j :: .ref a :: rest)) rfl rfl hd
  exact own_via st (k T' h' X' e' W' (Fr.snoc X' N g) (Arv.set Ar q S Nn H G hv W' i hi hlen))
theorem own_newR (X : Stand p l e R s m args below meth c T locs cells slots) (hx : p.tables.exec = Jvm.exec) (hZ : Z.Warmed39 s.vm) {own C : String} {index : Nat} (hown : s.vm.findClass own = some m.cls) (w1 : (Jvm.Cond.classLink own index C).before a0 Z = true) (w2 : (Jvm.Cond.arrayOver (.object C)).before a0 Z = true) (eT : T.heap = h) {pc pc' : Nat} {Ls : Array Slot} {rest : List Value} {n : Int32} (hd : decode c.code pc = .ok (.anewarray index, 3)) (hn : ¬ n < 0) (cap : Nat) (hcap : n.toNatClampNeg ≤ cap) (hb : cap * 8 ≤ 536870912) (hc : cells + 1 ≤ R.cells) (hl : slots + cap ≤ R.slots) (hp : pc + 3 = pc')
    (k : ∀ T' h' b kk, Stand p l e R s m args below meth c T' locs (cells + 1) (slots + cap) → T'.heap = h' → b = h.size → Ext h h' → Arv Z h' b kk (.object C) n [] .null → Ovr Z kk C → own_Ends p e below Φ (T'.setTop (mkF m pc' Ls (.ref b :: rest)))) : own_Ends p e below Φ (T.setTop (mkF m pc Ls (.int n :: rest))) := by
  subst hp; obtain ⟨T', h', cA, X', e', E', A', O', st⟩ := newR X hx hZ hown w1 w2 eT (g := mkF m pc Ls (.int n :: rest)) rfl hd rfl hn hcap hb hc hl
  exact own_via st (k T' h' _ cA X' e' rfl E' (Arv.new A' hn) O')
theorem own_arraylength (X : Stand p l e R s m args below meth c T locs cells slots) (hx : p.tables.exec = Jvm.exec) (hZ : Z.Warmed39 s.vm) (eT : T.heap = h) {a : Addr} {kk : ClassId} {z : Int32} {ty : FieldType} {vs : List Value} {dv : Value} (A : Arv Z h a kk ty z vs dv) {pc pc' : Nat} {Ls : Array Slot} {rest : List Value} (hd : decode c.code pc = .ok (.arraylength, 1)) (hp : pc + 1 = pc') (k : own_Ends p e below Φ (T.setTop (mkF m pc' Ls (.int z :: rest)))) : own_Ends p e below Φ (T.setTop (mkF m pc Ls (.ref a :: rest))) := by
  subst hp; obtain ⟨cl, Ar, q, S, Nn, H, G⟩ := A
  refine own_via (X.arraylength hx (by rw [eT]; exact Ar.1) (State.isArrayOf_alike hZ.alike Ar.2.1) (g := mkF m pc Ls (.ref a :: rest)) rfl rfl hd) ?_
  rw [len_of S Nn]; exact k
theorem own_iaload (X : Stand p l e R s m args below meth c T locs cells slots) (hx : p.tables.exec = Jvm.exec) (hZ : Z.Warmed39 s.vm) (eT : T.heap = h) {a : Addr} {kk : ClassId} {z : Int32} {vs : List Value} {dv : Value} (A : Arv Z h a kk .int z vs dv) {j : Int32} {x : Int32} (hj : ¬ j < 0 ∧ j < z) (hv : vs.getD j.toNatClampNeg dv = .int x) {pc pc' : Nat} {Ls : Array Slot} {rest : List Value} (hd : decode c.code pc = .ok (.iaload, 1)) (hp : pc + 1 = pc') (k : own_Ends p e below Φ (T.setTop (mkF m pc' Ls (.int x :: rest)))) : own_Ends p e below Φ (T.setTop (mkF m pc Ls (.int j :: .ref a :: rest))) := by
  subst hp; obtain ⟨cl, Ar, q, S, Nn, H, G⟩ := A
  exact own_via (X.iaload hx (j := j) (v := .int x) (by rw [eT]; exact Ar.1) (State.isArrayOf_alike hZ.alike Ar.2.1) Ar.2.2 (inb_of S hj) (H.at (inb_of S hj) hv) (g := mkF m pc Ls (.int j :: .ref a :: rest)) rfl rfl hd) k
theorem own_caload (X : Stand p l e R s m args below meth c T locs cells slots) (hx : p.tables.exec = Jvm.exec) (hZ : Z.Warmed39 s.vm) (eT : T.heap = h) {a : Addr} {kk : ClassId} {z : Int32} {vs : List Value} {dv : Value} (A : Arv Z h a kk .char z vs dv) {j : Int32} {x : Int32} (hj : ¬ j < 0 ∧ j < z) (hv : vs.getD j.toNatClampNeg dv = .int x) {pc pc' : Nat} {Ls : Array Slot} {rest : List Value} (hd : decode c.code pc = .ok (.caload, 1)) (hp : pc + 1 = pc') (k : own_Ends p e below Φ (T.setTop (mkF m pc' Ls (.int x :: rest)))) : own_Ends p e below Φ (T.setTop (mkF m pc Ls (.int j :: .ref a :: rest))) := by
  subst hp; obtain ⟨cl, Ar, q, S, Nn, H, G⟩ := A
  exact own_via (X.caload hx (j := j) (v := .int x) (by rw [eT]; exact Ar.1) (State.isArrayOf_alike hZ.alike Ar.2.1) Ar.2.2 (inb_of S hj) (H.at (inb_of S hj) hv) (g := mkF m pc Ls (.int j :: .ref a :: rest)) rfl rfl hd) k
theorem own_baloadBytes (X : Stand p l e R s m args below meth c T locs cells slots) (hx : p.tables.exec = Jvm.exec) (hZ : Z.Warmed39 s.vm) (eT : T.heap = h) {a : Addr} {kk : ClassId} {z : Int32} {vs : List Value} {dv : Value} (A : Arv Z h a kk .byte z vs dv) {j : Int32} {x : Int32} (hj : ¬ j < 0 ∧ j < z) (hv : vs.getD j.toNatClampNeg dv = .int x) {pc pc' : Nat} {Ls : Array Slot} {rest : List Value} (hd : decode c.code pc = .ok (.baload, 1)) (hp : pc + 1 = pc') (k : own_Ends p e below Φ (T.setTop (mkF m pc' Ls (.int x :: rest)))) : own_Ends p e below Φ (T.setTop (mkF m pc Ls (.int j :: .ref a :: rest))) := by
  subst hp; obtain ⟨cl, Ar, q, S, Nn, H, G⟩ := A
  exact own_via (X.baloadBytes hx (j := j) (v := .int x) (by rw [eT]; exact Ar.1) (State.isArrayOf_alike hZ.alike Ar.2.1) Ar.2.2 (inb_of S hj) (H.at (inb_of S hj) hv) (g := mkF m pc Ls (.int j :: .ref a :: rest)) rfl rfl hd) k
theorem own_aaload (X : Stand p l e R s m args below meth c T locs cells slots) (hx : p.tables.exec = Jvm.exec) (hZ : Z.Warmed39 s.vm) (eT : T.heap = h) {a : Addr} {kk : ClassId} {z : Int32} {ty : FieldType} (hty : ty.isReference = true) {vs : List Value} {dv : Value} (A : Arv Z h a kk ty z vs dv) {j : Int32} {v : Value} (hj : ¬ j < 0 ∧ j < z) (hv : vs.getD j.toNatClampNeg dv = v) {pc pc' : Nat} {Ls : Array Slot} {rest : List Value} (hd : decode c.code pc = .ok (.aaload, 1)) (hp : pc + 1 = pc') (k : own_Ends p e below Φ (T.setTop (mkF m pc' Ls (v :: rest)))) : own_Ends p e below Φ (T.setTop (mkF m pc Ls (.int j :: .ref a :: rest))) := by
  subst hp; obtain ⟨cl, Ar, q, S, Nn, H, G⟩ := A
  exact own_via (X.aaload hx (j := j) (v := v) (by rw [eT]; exact Ar.1) (State.isArrayOf_alike hZ.alike Ar.2.1) hty Ar.2.2 (inb_of S hj) (H.at (inb_of S hj) hv) (g := mkF m pc Ls (.int j :: .ref a :: rest)) rfl rfl hd) k
theorem own_castY (X : Stand p l e R s m args below meth c T locs cells slots) (hx : p.tables.exec = Jvm.exec) (hZ : Z.Warmed39 s.vm) {own C : String} {index : Nat} (hown : s.vm.findClass own = some m.cls) (w : (Jvm.Cond.classLink own index C).before a0 Z = true) (eT : T.heap = h) {a : Addr} (F : Ins Z h a C true) {pc pc' : Nat} {Ls : Array Slot} {rest : List Value} (hd : decode c.code pc = .ok (.checkcast index, 3)) (hp : pc + 3 = pc') (k : ∀ T', Stand p l e R s m args below meth c T' locs cells slots → T'.heap = h → own_Ends p e below Φ (T'.setTop (mkF m pc' Ls (.ref a :: rest)))) : own_Ends p e below Φ (T.setTop (mkF m pc Ls (.ref a :: rest))) := by
  subst hp; obtain ⟨T', X', e', st⟩ := castY X hx hZ hown w eT F (g := mkF m pc Ls (.ref a :: rest)) rfl rfl hd
  exact own_via st (k T' X' e')
theorem own_castN (X : Stand p l e R s m args below meth c T locs cells slots) (hx : p.tables.exec = Jvm.exec) {index : Nat} {pc pc' : Nat} {Ls : Array Slot} {rest : List Value} (hd : decode c.code pc = .ok (.checkcast index, 3)) (hp : pc + 3 = pc') (k : own_Ends p e below Φ (T.setTop (mkF m pc' Ls (.null :: rest)))) : own_Ends p e below Φ (T.setTop (mkF m pc Ls (.null :: rest))) := by
  subst hp; exact own_via (fun _ q => X.checkcastNull hx (g := mkF m pc Ls (.null :: rest)) rfl rfl hd _ q) k
theorem own_instY (X : Stand p l e R s m args below meth c T locs cells slots) (hx : p.tables.exec = Jvm.exec) (hZ : Z.Warmed39 s.vm) {own C : String} {index : Nat} (hown : s.vm.findClass own = some m.cls) (w : (Jvm.Cond.classLink own index C).before a0 Z = true) (eT : T.heap = h) {a : Addr} (F : Ins Z h a C true) {pc pc' : Nat} {Ls : Array Slot} {rest : List Value} (hd : decode c.code pc = .ok (.instanceof index, 3)) (hp : pc + 3 = pc') (k : ∀ T', Stand p l e R s m args below meth c T' locs cells slots → T'.heap = h → own_Ends p e below Φ (T'.setTop (mkF m pc' Ls (.int 1 :: rest)))) : own_Ends p e below Φ (T.setTop (mkF m pc Ls (.ref a :: rest))) := by
  subst hp; obtain ⟨T', X', e', st⟩ := instY X hx hZ hown w eT F (g := mkF m pc Ls (.ref a :: rest)) rfl rfl hd
  exact own_via st (k T' X' e')
theorem own_instNull (X : Stand p l e R s m args below meth c T locs cells slots) (hx : p.tables.exec = Jvm.exec) {index : Nat} {pc pc' : Nat} {Ls : Array Slot} {rest : List Value} (hd : decode c.code pc = .ok (.instanceof index, 3)) (hp : pc + 3 = pc') (k : own_Ends p e below Φ (T.setTop (mkF m pc' Ls (.int 0 :: rest)))) : own_Ends p e below Φ (T.setTop (mkF m pc Ls (.null :: rest))) := by
  subst hp; exact own_via (fun _ q => X.instanceofNull hx (g := mkF m pc Ls (.null :: rest)) rfl rfl hd _ q) k
theorem own_instN (X : Stand p l e R s m args below meth c T locs cells slots) (hx : p.tables.exec = Jvm.exec) (hZ : Z.Warmed39 s.vm) {own K C : String} {index : Nat} (hown : s.vm.findClass own = some m.cls) (w : (Jvm.Cond.classLink own index K).before a0 Z = true) (eT : T.heap = h) {a : Addr} (E : Exa Z h a C) (F : ∃ c t, Z.vm.findClass C = some c ∧ Z.vm.findClass K = some t ∧ Z.vm.assignable c t = false) {pc pc' : Nat} {Ls : Array Slot} {rest : List Value} (hd : decode c.code pc = .ok (.instanceof index, 3)) (hp : pc + 3 = pc') (k : ∀ T', Stand p l e R s m args below meth c T' locs cells slots → T'.heap = h → own_Ends p e below Φ (T'.setTop (mkF m pc' Ls (.int 0 :: rest)))) : own_Ends p e below Φ (T.setTop (mkF m pc Ls (.ref a :: rest))) := by
  subst hp; obtain ⟨T', X', e', st⟩ := instNo X hx hZ hown w eT E F (g := mkF m pc Ls (.ref a :: rest)) rfl rfl hd
  exact own_via st (k T' X' e')
theorem own_neV {a b : Addr} {k1 k2 : ClassId} {t1 t2 : FieldType} {z1 z2 : Int32} {v1 v2 : List Value} {d1 d2 : Value} (A : Arv Z h a k1 t1 z1 v1 d1) (B : Arv Z h b k2 t2 z2 v2 d2) (hn : t1 ≠ t2) : a ≠ b := fun e => by
  subst e
  obtain ⟨c1, A1, -⟩ := A
  obtain ⟨c2, B1, -⟩ := B
  cases A1.1.symm.trans B1.1
  obtain ⟨-, k3, j1, comp, j2⟩ := A1.2.1
  obtain ⟨-, k4, i1, comp', i2⟩ := B1.2.1
  cases j1.symm.trans i1
  have := j2.symm.trans i2
  injection this with _ q
  exact hn q
theorem own_sto {a y : Addr} {kk : ClassId} {ty : FieldType} {z : Int32} {vs : List Value} {dv : Value} {C : String} (A : Arv Z h a kk ty z vs dv) (O : Ovr Z kk C) (I : Ins Z h y C true) : Sto Z h a (.ref y) := by
  obtain ⟨cl, Ar, q, -⟩ := A
  exact Sto.ofV Ar q O I
theorem own_ldcDouble (X : Stand p l e R s m args below meth c T locs cells slots) (hx : p.tables.exec = Jvm.exec) (hZ : Z.Warmed39 s.vm) {own : String} {index : Nat} {v : UInt64} (hown : s.vm.findClass own = some m.cls) (w : (Jvm.Cond.constantDouble own index v).before a0 Z = true) {pc pc' : Nat} {Ls : Array Slot} {rest : List Value} (hd : decode c.code pc = .ok (.ldc2_w index, 3)) (hp : pc + 3 = pc') (h : own_Ends p e below Φ (T.setTop (mkF m pc' Ls (.double v :: rest)))) : own_Ends p e below Φ (T.setTop (mkF m pc Ls rest)) := by
  subst hp; exact own_via (X.ldc2DoubleC hx hown (mvT hZ w) (g := mkF m pc Ls rest) rfl hd) h
theorem own_dcmp (X : Stand p l e R s m args below meth c T locs cells slots) (hx : p.tables.exec = Jvm.exec) {pc pc' : Nat} {Ls : Array Slot} {rest : List Value} {o : CmpOp} {x y : UInt64} (v : Int32) (hd : decode c.code pc = .ok (.dcmp o, 1)) (hv : cmpValue (FP.dcmp x y) o = v) (hp : pc + 1 = pc') (h : own_Ends p e below Φ (T.setTop (mkF m pc' Ls (.int v :: rest)))) : own_Ends p e below Φ (T.setTop (mkF m pc Ls (.double y :: .double x :: rest))) := by
  subst hp; exact own_via (fun _ k => XS.dcmpS X.here hx (g := mkF m pc Ls (.double y :: .double x :: rest)) rfl hd rfl hv k) h
theorem own_dload (X : Stand p l e R s m args below meth c T locs cells slots) (hx : p.tables.exec = Jvm.exec) {pc pc' : Nat} {Ls : Array Slot} {rest : List Value} {k : Nat} {v : UInt64} (hd : decode c.code pc = .ok (.dload k, 2)) (hl : Ls[k]? = some (.val (.double v))) (hp : pc + 2 = pc') (h : own_Ends p e below Φ (T.setTop (mkF m pc' Ls (.double v :: rest)))) : own_Ends p e below Φ (T.setTop (mkF m pc Ls rest)) := by
  subst hp; exact own_via (fun _ k => XS.dload X.here hx (g := mkF m pc Ls rest) rfl hd hl k) h
theorem own_dloadN (X : Stand p l e R s m args below meth c T locs cells slots) (hx : p.tables.exec = Jvm.exec) {pc pc' : Nat} {Ls : Array Slot} {rest : List Value} {k : Fin 4} {v : UInt64} (hd : decode c.code pc = .ok (.dload_n k, 1)) (hl : Ls[k.val]? = some (.val (.double v))) (hp : pc + 1 = pc') (h : own_Ends p e below Φ (T.setTop (mkF m pc' Ls (.double v :: rest)))) : own_Ends p e below Φ (T.setTop (mkF m pc Ls rest)) := by
  subst hp; exact own_via (fun _ k => XS.dloadN X.here hx (g := mkF m pc Ls rest) rfl hd hl k) h
theorem own_dstore (X : Stand p l e R s m args below meth c T locs cells slots) (hx : p.tables.exec = Jvm.exec) {pc pc' : Nat} {Ls : Array Slot} {rest : List Value} {k : Nat} {v : UInt64} (Ls' : Array Slot) (hd : decode c.code pc = .ok (.dstore k, 2)) (hl : storeLocals Ls k (.double v) = some Ls') (hp : pc + 2 = pc') (h : own_Ends p e below Φ (T.setTop (mkF m pc' Ls' rest))) : own_Ends p e below Φ (T.setTop (mkF m pc Ls (.double v :: rest))) := by
  subst hp; exact own_via (fun _ k => XS.dstore X.here hx (g := mkF m pc Ls (.double v :: rest)) rfl hd rfl hl k) h
theorem own_dstoreN (X : Stand p l e R s m args below meth c T locs cells slots) (hx : p.tables.exec = Jvm.exec) {pc pc' : Nat} {Ls : Array Slot} {rest : List Value} {k : Fin 4} {v : UInt64} (Ls' : Array Slot) (hd : decode c.code pc = .ok (.dstore_n k, 1)) (hl : storeLocals Ls k.val (.double v) = some Ls') (hp : pc + 1 = pc') (h : own_Ends p e below Φ (T.setTop (mkF m pc' Ls' rest))) : own_Ends p e below Φ (T.setTop (mkF m pc Ls (.double v :: rest))) := by
  subst hp; exact own_via (fun _ k => XS.dstoreN X.here hx (g := mkF m pc Ls (.double v :: rest)) rfl hd rfl hl k) h
theorem own_ldcLong (X : Stand p l e R s m args below meth c T locs cells slots) (hx : p.tables.exec = Jvm.exec) (hZ : Z.Warmed39 s.vm) {own : String} {index : Nat} {v : Int64} (hown : s.vm.findClass own = some m.cls) (w : (Jvm.Cond.constantLong own index v).before a0 Z = true) {pc pc' : Nat} {Ls : Array Slot} {rest : List Value} (hd : decode c.code pc = .ok (.ldc2_w index, 3)) (hp : pc + 3 = pc') (h : own_Ends p e below Φ (T.setTop (mkF m pc' Ls (.long v :: rest)))) : own_Ends p e below Φ (T.setTop (mkF m pc Ls rest)) := by
  subst hp; exact own_via (X.ldc2Long hx hown (mvT hZ w) (g := mkF m pc Ls rest) rfl hd) h
end OwnKitA
section OwnStr
theorem own_c0 {P : Int32 → Prop} : ∀ c ∈ ([] : List Int32), P c := fun _ q => nomatch q
theorem own_c2 {P : Int32 → Prop} {c : Int32} {L : List Int32} (h : P c) (r : ∀ x ∈ L, P x) : ∀ x ∈ c :: L, P x := fun x q => (List.mem_cons.mp q).elim (fun e => e ▸ h) (r x)
theorem own_up {cs : List Int32} (h : ∀ c ∈ cs, ¬ c < 0 ∧ ¬ (255 : Int32) < c) : ∀ c ∈ cs, ¬ c < 0 ∧ ¬ (65535 : Int32) < c := fun c hc => ⟨(h c hc).1, fun q => (h c hc).2 (by rw [Int32.lt_iff_toInt_lt] at q ⊢; have e1 : (65535 : Int32).toInt = 65535 := rfl; have e2 : (255 : Int32).toInt = 255 := rfl; omega)⟩
theorem own_ch (x : Int32) : ¬ (x &&& (255 : Int32)).toUInt32.toUInt16.toUInt32.toInt32 < 0 ∧ ¬ (255 : Int32) < (x &&& (255 : Int32)).toUInt32.toUInt16.toUInt32.toInt32 := by
  rw [i2c_mask]
  have h := c_mask x 255 8 (by decide) (by decide)
  constructor
  · rw [Int32.lt_iff_toInt_lt, h]; have e : (0 : Int32).toInt = 0 := rfl; omega
  · rw [Int32.lt_iff_toInt_lt, h]; have e : (255 : Int32).toInt = 255 := rfl; omega
theorem own_narC {c : Int32} (h : ¬ c < 0 ∧ ¬ (255 : Int32) < c) : nar .char c = c := by
  obtain ⟨h1, h2⟩ := h
  rw [Int32.lt_iff_toInt_lt] at h1 h2
  have e0 : (0 : Int32).toInt = 0 := rfl
  have e1 : (255 : Int32).toInt = 255 := rfl
  have q := c_i2c c
  refine Int32.toInt_inj.mp ?_
  show c.toUInt32.toUInt16.toUInt32.toInt32.toInt = c.toInt
  omega
def own_Str (Z : State) (h : Heap) (a : Addr) (cs : List Int32) : Prop := ∃ (t : Addr) (kb : ClassId) (cd N : Int32) (vs : List Value), Exa Z h a "java/lang/String" ∧ Fld Z h a "java/lang/String" "value" "[B" (.ref t) ∧ Fld Z h a "java/lang/String" "coder" "B" (.int cd) ∧ Arv Z h t kb .byte N vs (.int 0) ∧ StrChars.Road.CodA cs cd N vs ∧ (∀ c ∈ cs, ¬ c < 0 ∧ ¬ (65535 : Int32) < c) ∧ cs.length ≤ 4000
theorem own_Str.ext {Z : State} {h h' : Heap} {a : Addr} {cs : List Int32} (F : own_Str Z h a cs) (E : Ext h h') : own_Str Z h' a cs := by
  obtain ⟨t, kb, cd, N, vs, h1, h2, h3, h4, h5⟩ := F
  exact ⟨t, kb, cd, N, vs, h1.ext E, h2.ext E, h3.ext E, h4.ext E, h5⟩
theorem own_Str.keep0 {Z : State} {h h' : Heap} {a : Addr} {cs : List Int32} (F : own_Str Z h a cs) (K : Keep h h' []) : own_Str Z h' a cs := by
  obtain ⟨t, kb, cd, N, vs, h1, h2, h3, h4, h5⟩ := F
  exact ⟨t, kb, cd, N, vs, h1.keep K, h2.keep K nin0, h3.keep K nin0, h4.keep K nin0, h5⟩
end OwnStr
theorem own_pd0 : parseMethodDescriptor "()V" = some ⟨[], none⟩ := by decide +kernel
theorem own_pd1 : parseMethodDescriptor "(II)I" = some ⟨[.int, .int], some .int⟩ := by decide +kernel
theorem own_pd2 : parseMethodDescriptor "(I)[Ljava/lang/Object;" = some ⟨[.int], some (.array (.object "java/lang/Object"))⟩ := by decide +kernel
theorem own_pd3 : parseMethodDescriptor "()[Ljava/lang/Object;" = some ⟨[], some (.array (.object "java/lang/Object"))⟩ := by decide +kernel
theorem own_pd4 : parseMethodDescriptor "(Ljava/lang/Object;[Ljava/lang/Object;I)V" = some ⟨[(.object "java/lang/Object"), (.array (.object "java/lang/Object")), .int], none⟩ := by decide +kernel
theorem own_pd5 : parseMethodDescriptor "(Ljava/lang/Object;)Z" = some ⟨[(.object "java/lang/Object")], some .boolean⟩ := by decide +kernel
theorem own_pd6 : parseMethodDescriptor "()Ljava/lang/String;" = some ⟨[], some (.object "java/lang/String")⟩ := by decide +kernel
theorem own_pd7 : parseMethodDescriptor "()I" = some ⟨[], some .int⟩ := by decide +kernel
theorem own_pd8 : parseMethodDescriptor "(Ljava/util/ArrayList;)V" = some ⟨[(.object "java/util/ArrayList")], none⟩ := by decide +kernel
theorem own_pd9 : parseMethodDescriptor "()Ljava/util/Iterator;" = some ⟨[], some (.object "java/util/Iterator")⟩ := by decide +kernel
theorem own_pd10 : parseMethodDescriptor "()Z" = some ⟨[], some .boolean⟩ := by decide +kernel
theorem own_pd11 : parseMethodDescriptor "([C)V" = some ⟨[(.array .char)], none⟩ := by decide +kernel
theorem own_pd12 : parseMethodDescriptor "(II)V" = some ⟨[.int, .int], none⟩ := by decide +kernel
theorem own_pd13 : parseMethodDescriptor "()J" = some ⟨[], some .long⟩ := by decide +kernel
theorem own_pd14 : parseMethodDescriptor "(ILjava/lang/String;)V" = some ⟨[.int, (.object "java/lang/String")], none⟩ := by decide +kernel
theorem own_pd15 : parseMethodDescriptor "(Lcom/example/ledgerleaf/ledgerleaf/Finding;)V" = some ⟨[(.object "com/example/ledgerleaf/ledgerleaf/Finding")], none⟩ := by decide +kernel
theorem own_d_jdk_30_method_1_code_0 : decode jdk_30_method_1_code 0 = .ok (.aload_n 0, 1) := by decide +kernel
theorem own_d_jdk_30_method_1_code_1 : decode jdk_30_method_1_code 1 = .ok (.invokespecial 1, 3) := by decide +kernel
theorem own_d_jdk_30_method_1_code_4 : decode jdk_30_method_1_code 4 = .ok (.return_, 1) := by decide +kernel
theorem own_pn_java_lang_Record : plainName "java/lang/Record" = true := by first | (simp [plainName, overriddenIn]; done) | decide +kernel
theorem own_d_jdk_22_method_1_code_0 : decode jdk_22_method_1_code 0 = .ok (.aload_n 0, 1) := by decide +kernel
theorem own_d_jdk_22_method_1_code_1 : decode jdk_22_method_1_code 1 = .ok (.invokespecial 1, 3) := by decide +kernel
theorem own_d_jdk_22_method_1_code_4 : decode jdk_22_method_1_code 4 = .ok (.return_, 1) := by decide +kernel
theorem own_pn_java_util_AbstractCollection : plainName "java/util/AbstractCollection" = true := by first | (simp [plainName, overriddenIn]; done) | decide +kernel
theorem own_d_jdk_39_method_1_code_0 : decode jdk_39_method_1_code 0 = .ok (.aload_n 0, 1) := by decide +kernel
theorem own_d_jdk_39_method_1_code_1 : decode jdk_39_method_1_code 1 = .ok (.invokespecial 1, 3) := by decide +kernel
theorem own_d_jdk_39_method_1_code_4 : decode jdk_39_method_1_code 4 = .ok (.aload_n 0, 1) := by decide +kernel
theorem own_d_jdk_39_method_1_code_5 : decode jdk_39_method_1_code 5 = .ok (.iconst 0, 1) := by decide +kernel
theorem own_d_jdk_39_method_1_code_6 : decode jdk_39_method_1_code 6 = .ok (.putfield 7, 3) := by decide +kernel
theorem own_d_jdk_39_method_1_code_9 : decode jdk_39_method_1_code 9 = .ok (.return_, 1) := by decide +kernel
theorem own_pn_java_util_AbstractList : plainName "java/util/AbstractList" = true := by first | (simp [plainName, overriddenIn]; done) | decide +kernel
theorem own_d_jdk_38_method_2_code_0 : decode jdk_38_method_2_code 0 = .ok (.aload_n 0, 1) := by decide +kernel
theorem own_d_jdk_38_method_2_code_1 : decode jdk_38_method_2_code 1 = .ok (.invokespecial 1, 3) := by decide +kernel
theorem own_d_jdk_38_method_2_code_4 : decode jdk_38_method_2_code 4 = .ok (.aload_n 0, 1) := by decide +kernel
theorem own_d_jdk_38_method_2_code_5 : decode jdk_38_method_2_code 5 = .ok (.getstatic 39, 3) := by decide +kernel
theorem own_d_jdk_38_method_2_code_8 : decode jdk_38_method_2_code 8 = .ok (.putfield 9, 3) := by decide +kernel
theorem own_d_jdk_38_method_2_code_11 : decode jdk_38_method_2_code 11 = .ok (.return_, 1) := by decide +kernel
theorem own_pn_java_util_ArrayList : plainName "java/util/ArrayList" = true := by first | (simp [plainName, overriddenIn]; done) | decide +kernel
theorem own_d_jdk_29_method_65_code_0 : decode jdk_29_method_65_code 0 = .ok (.iload_n 0, 1) := by decide +kernel
theorem own_d_jdk_29_method_65_code_1 : decode jdk_29_method_65_code 1 = .ok (.iload_n 1, 1) := by decide +kernel
theorem own_d_jdk_29_method_65_code_2 : decode jdk_29_method_65_code 2 = .ok (.if_icmp .lt 7, 3) := by decide +kernel
theorem own_d_jdk_29_method_65_code_5 : decode jdk_29_method_65_code 5 = .ok (.iload_n 0, 1) := by decide +kernel
theorem own_d_jdk_29_method_65_code_6 : decode jdk_29_method_65_code 6 = .ok (.goto 4, 3) := by decide +kernel
theorem own_d_jdk_29_method_65_code_10 : decode jdk_29_method_65_code 10 = .ok (.ireturn, 1) := by decide +kernel
theorem own_d_jdk_38_method_6_code_0 : decode jdk_38_method_6_code 0 = .ok (.aload_n 0, 1) := by decide +kernel
theorem own_d_jdk_38_method_6_code_1 : decode jdk_38_method_6_code 1 = .ok (.getfield 9, 3) := by decide +kernel
theorem own_d_jdk_38_method_6_code_4 : decode jdk_38_method_6_code 4 = .ok (.arraylength, 1) := by decide +kernel
theorem own_d_jdk_38_method_6_code_5 : decode jdk_38_method_6_code 5 = .ok (.istore_n 2, 1) := by decide +kernel
theorem own_d_jdk_38_method_6_code_6 : decode jdk_38_method_6_code 6 = .ok (.iload_n 2, 1) := by decide +kernel
theorem own_d_jdk_38_method_6_code_7 : decode jdk_38_method_6_code 7 = .ok (.ifCond .gt 13, 3) := by decide +kernel
theorem own_d_jdk_38_method_6_code_10 : decode jdk_38_method_6_code 10 = .ok (.aload_n 0, 1) := by decide +kernel
theorem own_d_jdk_38_method_6_code_11 : decode jdk_38_method_6_code 11 = .ok (.getfield 9, 3) := by decide +kernel
theorem own_d_jdk_38_method_6_code_14 : decode jdk_38_method_6_code 14 = .ok (.getstatic 39, 3) := by decide +kernel
theorem own_d_jdk_38_method_6_code_17 : decode jdk_38_method_6_code 17 = .ok (.if_acmp .eq 28, 3) := by decide +kernel
theorem own_d_jdk_38_method_6_code_45 : decode jdk_38_method_6_code 45 = .ok (.aload_n 0, 1) := by decide +kernel
theorem own_d_jdk_38_method_6_code_46 : decode jdk_38_method_6_code 46 = .ok (.bipush 10, 2) := by decide +kernel
theorem own_d_jdk_38_method_6_code_48 : decode jdk_38_method_6_code 48 = .ok (.iload_n 1, 1) := by decide +kernel
theorem own_d_jdk_38_method_6_code_49 : decode jdk_38_method_6_code 49 = .ok (.invokestatic 79, 3) := by decide +kernel
theorem own_d_jdk_38_method_6_code_52 : decode jdk_38_method_6_code 52 = .ok (.anewarray 7, 3) := by decide +kernel
theorem own_d_jdk_38_method_6_code_55 : decode jdk_38_method_6_code 55 = .ok (.dup_x1, 1) := by decide +kernel
theorem own_d_jdk_38_method_6_code_56 : decode jdk_38_method_6_code 56 = .ok (.putfield 9, 3) := by decide +kernel
theorem own_d_jdk_38_method_6_code_59 : decode jdk_38_method_6_code 59 = .ok (.areturn, 1) := by decide +kernel
theorem own_d_jdk_38_method_7_code_0 : decode jdk_38_method_7_code 0 = .ok (.aload_n 0, 1) := by decide +kernel
theorem own_d_jdk_38_method_7_code_1 : decode jdk_38_method_7_code 1 = .ok (.aload_n 0, 1) := by decide +kernel
theorem own_d_jdk_38_method_7_code_2 : decode jdk_38_method_7_code 2 = .ok (.getfield 48, 3) := by decide +kernel
theorem own_d_jdk_38_method_7_code_5 : decode jdk_38_method_7_code 5 = .ok (.iconst 1, 1) := by decide +kernel
theorem own_d_jdk_38_method_7_code_6 : decode jdk_38_method_7_code 6 = .ok (.iadd, 1) := by decide +kernel
theorem own_d_jdk_38_method_7_code_7 : decode jdk_38_method_7_code 7 = .ok (.invokevirtual 69, 3) := by decide +kernel
theorem own_d_jdk_38_method_7_code_10 : decode jdk_38_method_7_code 10 = .ok (.areturn, 1) := by decide +kernel
theorem own_d_jdk_38_method_24_code_0 : decode jdk_38_method_24_code 0 = .ok (.iload_n 3, 1) := by decide +kernel
theorem own_d_jdk_38_method_24_code_1 : decode jdk_38_method_24_code 1 = .ok (.aload_n 2, 1) := by decide +kernel
theorem own_d_jdk_38_method_24_code_2 : decode jdk_38_method_24_code 2 = .ok (.arraylength, 1) := by decide +kernel
theorem own_d_jdk_38_method_24_code_3 : decode jdk_38_method_24_code 3 = .ok (.if_icmp .ne 8, 3) := by decide +kernel
theorem own_d_jdk_38_method_24_code_6 : decode jdk_38_method_24_code 6 = .ok (.aload_n 0, 1) := by decide +kernel
theorem own_d_jdk_38_method_24_code_7 : decode jdk_38_method_24_code 7 = .ok (.invokevirtual 129, 3) := by decide +kernel
theorem own_d_jdk_38_method_24_code_10 : decode jdk_38_method_24_code 10 = .ok (.astore_n 2, 1) := by decide +kernel
theorem own_d_jdk_38_method_24_code_11 : decode jdk_38_method_24_code 11 = .ok (.aload_n 2, 1) := by decide +kernel
theorem own_d_jdk_38_method_24_code_12 : decode jdk_38_method_24_code 12 = .ok (.iload_n 3, 1) := by decide +kernel
theorem own_d_jdk_38_method_24_code_13 : decode jdk_38_method_24_code 13 = .ok (.aload_n 1, 1) := by decide +kernel
theorem own_d_jdk_38_method_24_code_14 : decode jdk_38_method_24_code 14 = .ok (.aastore, 1) := by decide +kernel
theorem own_d_jdk_38_method_24_code_15 : decode jdk_38_method_24_code 15 = .ok (.aload_n 0, 1) := by decide +kernel
theorem own_d_jdk_38_method_24_code_16 : decode jdk_38_method_24_code 16 = .ok (.iload_n 3, 1) := by decide +kernel
theorem own_d_jdk_38_method_24_code_17 : decode jdk_38_method_24_code 17 = .ok (.iconst 1, 1) := by decide +kernel
theorem own_d_jdk_38_method_24_code_18 : decode jdk_38_method_24_code 18 = .ok (.iadd, 1) := by decide +kernel
theorem own_d_jdk_38_method_24_code_19 : decode jdk_38_method_24_code 19 = .ok (.putfield 48, 3) := by decide +kernel
theorem own_d_jdk_38_method_24_code_22 : decode jdk_38_method_24_code 22 = .ok (.return_, 1) := by decide +kernel
theorem own_d_jdk_38_method_25_code_0 : decode jdk_38_method_25_code 0 = .ok (.aload_n 0, 1) := by decide +kernel
theorem own_d_jdk_38_method_25_code_1 : decode jdk_38_method_25_code 1 = .ok (.dup, 1) := by decide +kernel
theorem own_d_jdk_38_method_25_code_2 : decode jdk_38_method_25_code 2 = .ok (.getfield 63, 3) := by decide +kernel
theorem own_d_jdk_38_method_25_code_5 : decode jdk_38_method_25_code 5 = .ok (.iconst 1, 1) := by decide +kernel
theorem own_d_jdk_38_method_25_code_6 : decode jdk_38_method_25_code 6 = .ok (.iadd, 1) := by decide +kernel
theorem own_d_jdk_38_method_25_code_7 : decode jdk_38_method_25_code 7 = .ok (.putfield 63, 3) := by decide +kernel
theorem own_d_jdk_38_method_25_code_10 : decode jdk_38_method_25_code 10 = .ok (.aload_n 0, 1) := by decide +kernel
theorem own_d_jdk_38_method_25_code_11 : decode jdk_38_method_25_code 11 = .ok (.aload_n 1, 1) := by decide +kernel
theorem own_d_jdk_38_method_25_code_12 : decode jdk_38_method_25_code 12 = .ok (.aload_n 0, 1) := by decide +kernel
theorem own_d_jdk_38_method_25_code_13 : decode jdk_38_method_25_code 13 = .ok (.getfield 9, 3) := by decide +kernel
theorem own_d_jdk_38_method_25_code_16 : decode jdk_38_method_25_code 16 = .ok (.aload_n 0, 1) := by decide +kernel
theorem own_d_jdk_38_method_25_code_17 : decode jdk_38_method_25_code 17 = .ok (.getfield 48, 3) := by decide +kernel
theorem own_d_jdk_38_method_25_code_20 : decode jdk_38_method_25_code 20 = .ok (.invokevirtual 131, 3) := by decide +kernel
theorem own_d_jdk_38_method_25_code_23 : decode jdk_38_method_25_code 23 = .ok (.iconst 1, 1) := by decide +kernel
theorem own_d_jdk_38_method_25_code_24 : decode jdk_38_method_25_code 24 = .ok (.ireturn, 1) := by decide +kernel
theorem own_d_jdk_38_method_40_code_0 : decode jdk_38_method_40_code 0 = .ok (.aload_n 0, 1) := by decide +kernel
theorem own_d_jdk_38_method_40_code_1 : decode jdk_38_method_40_code 1 = .ok (.dup, 1) := by decide +kernel
theorem own_d_jdk_38_method_40_code_2 : decode jdk_38_method_40_code 2 = .ok (.getfield 63, 3) := by decide +kernel
theorem own_d_jdk_38_method_40_code_5 : decode jdk_38_method_40_code 5 = .ok (.iconst 1, 1) := by decide +kernel
theorem own_d_jdk_38_method_40_code_6 : decode jdk_38_method_40_code 6 = .ok (.iadd, 1) := by decide +kernel
theorem own_d_jdk_38_method_40_code_7 : decode jdk_38_method_40_code 7 = .ok (.putfield 63, 3) := by decide +kernel
theorem own_d_jdk_38_method_40_code_10 : decode jdk_38_method_40_code 10 = .ok (.aload_n 0, 1) := by decide +kernel
theorem own_d_jdk_38_method_40_code_11 : decode jdk_38_method_40_code 11 = .ok (.getfield 9, 3) := by decide +kernel
theorem own_d_jdk_38_method_40_code_14 : decode jdk_38_method_40_code 14 = .ok (.astore_n 1, 1) := by decide +kernel
theorem own_d_jdk_38_method_40_code_15 : decode jdk_38_method_40_code 15 = .ok (.aload_n 0, 1) := by decide +kernel
theorem own_d_jdk_38_method_40_code_16 : decode jdk_38_method_40_code 16 = .ok (.getfield 48, 3) := by decide +kernel
theorem own_d_jdk_38_method_40_code_19 : decode jdk_38_method_40_code 19 = .ok (.istore_n 2, 1) := by decide +kernel
theorem own_d_jdk_38_method_40_code_20 : decode jdk_38_method_40_code 20 = .ok (.aload_n 0, 1) := by decide +kernel
theorem own_d_jdk_38_method_40_code_21 : decode jdk_38_method_40_code 21 = .ok (.iconst 0, 1) := by decide +kernel
theorem own_d_jdk_38_method_40_code_22 : decode jdk_38_method_40_code 22 = .ok (.dup_x1, 1) := by decide +kernel
theorem own_d_jdk_38_method_40_code_23 : decode jdk_38_method_40_code 23 = .ok (.putfield 48, 3) := by decide +kernel
theorem own_d_jdk_38_method_40_code_26 : decode jdk_38_method_40_code 26 = .ok (.istore_n 3, 1) := by decide +kernel
theorem own_d_jdk_38_method_40_code_27 : decode jdk_38_method_40_code 27 = .ok (.iload_n 3, 1) := by decide +kernel
theorem own_d_jdk_38_method_40_code_28 : decode jdk_38_method_40_code 28 = .ok (.iload_n 2, 1) := by decide +kernel
theorem own_d_jdk_38_method_40_code_29 : decode jdk_38_method_40_code 29 = .ok (.if_icmp .ge 13, 3) := by decide +kernel
theorem own_d_jdk_38_method_40_code_42 : decode jdk_38_method_40_code 42 = .ok (.return_, 1) := by decide +kernel
theorem own_d_jdk_38_method_40_code_32 : decode jdk_38_method_40_code 32 = .ok (.aload_n 1, 1) := by decide +kernel
theorem own_d_jdk_38_method_40_code_33 : decode jdk_38_method_40_code 33 = .ok (.iload_n 3, 1) := by decide +kernel
theorem own_d_jdk_38_method_40_code_34 : decode jdk_38_method_40_code 34 = .ok (.aconst_null, 1) := by decide +kernel
theorem own_d_jdk_38_method_40_code_35 : decode jdk_38_method_40_code 35 = .ok (.aastore, 1) := by decide +kernel
theorem own_d_jdk_38_method_40_code_36 : decode jdk_38_method_40_code 36 = .ok (.iinc 3 1, 3) := by decide +kernel
theorem own_d_jdk_38_method_40_code_39 : decode jdk_38_method_40_code 39 = .ok (.goto (-12), 3) := by decide +kernel
theorem own_d_prog_39_method_1_code_0 : decode prog_39_method_1_code 0 = .ok (.aload_n 0, 1) := by decide +kernel
theorem own_d_prog_39_method_1_code_1 : decode prog_39_method_1_code 1 = .ok (.invokespecial 1, 3) := by decide +kernel
theorem own_d_prog_39_method_1_code_4 : decode prog_39_method_1_code 4 = .ok (.aload_n 0, 1) := by decide +kernel
theorem own_d_prog_39_method_1_code_5 : decode prog_39_method_1_code 5 = .ok (.iload_n 1, 1) := by decide +kernel
theorem own_d_prog_39_method_1_code_6 : decode prog_39_method_1_code 6 = .ok (.putfield 7, 3) := by decide +kernel
theorem own_d_prog_39_method_1_code_9 : decode prog_39_method_1_code 9 = .ok (.aload_n 0, 1) := by decide +kernel
theorem own_d_prog_39_method_1_code_10 : decode prog_39_method_1_code 10 = .ok (.aload_n 2, 1) := by decide +kernel
theorem own_d_prog_39_method_1_code_11 : decode prog_39_method_1_code 11 = .ok (.putfield 13, 3) := by decide +kernel
theorem own_d_prog_39_method_1_code_14 : decode prog_39_method_1_code 14 = .ok (.return_, 1) := by decide +kernel
theorem own_pn_com_example_ledgerleaf_ledgerleaf_Finding : plainName "com/example/ledgerleaf/ledgerleaf/Finding" = true := by first | (simp [plainName, overriddenIn]; done) | decide +kernel
theorem own_d_prog_39_method_12_code_0 : decode prog_39_method_12_code 0 = .ok (.aload_n 0, 1) := by decide +kernel
theorem own_d_prog_39_method_12_code_1 : decode prog_39_method_12_code 1 = .ok (.getfield 13, 3) := by decide +kernel
theorem own_d_prog_39_method_12_code_4 : decode prog_39_method_12_code 4 = .ok (.areturn, 1) := by decide +kernel
theorem own_d_jdk_38_method_8_code_0 : decode jdk_38_method_8_code 0 = .ok (.aload_n 0, 1) := by decide +kernel
theorem own_d_jdk_38_method_8_code_1 : decode jdk_38_method_8_code 1 = .ok (.getfield 48, 3) := by decide +kernel
theorem own_d_jdk_38_method_8_code_4 : decode jdk_38_method_8_code 4 = .ok (.ireturn, 1) := by decide +kernel
theorem own_d_prog_40_method_2_code_0 : decode prog_40_method_2_code 0 = .ok (.aload_n 0, 1) := by decide +kernel
theorem own_d_prog_40_method_2_code_1 : decode prog_40_method_2_code 1 = .ok (.invokespecial 7, 3) := by decide +kernel
theorem own_d_prog_40_method_2_code_4 : decode prog_40_method_2_code 4 = .ok (.aload_n 0, 1) := by decide +kernel
theorem own_d_prog_40_method_2_code_5 : decode prog_40_method_2_code 5 = .ok (.new 12, 3) := by decide +kernel
theorem own_d_prog_40_method_2_code_8 : decode prog_40_method_2_code 8 = .ok (.dup, 1) := by decide +kernel
theorem own_d_prog_40_method_2_code_9 : decode prog_40_method_2_code 9 = .ok (.invokespecial 14, 3) := by decide +kernel
theorem own_d_prog_40_method_2_code_12 : decode prog_40_method_2_code 12 = .ok (.putfield 15, 3) := by decide +kernel
theorem own_d_prog_40_method_2_code_15 : decode prog_40_method_2_code 15 = .ok (.aload_n 0, 1) := by decide +kernel
theorem own_d_prog_40_method_2_code_16 : decode prog_40_method_2_code 16 = .ok (.iconst 1, 1) := by decide +kernel
theorem own_d_prog_40_method_2_code_17 : decode prog_40_method_2_code 17 = .ok (.putfield 19, 3) := by decide +kernel
theorem own_d_prog_40_method_2_code_20 : decode prog_40_method_2_code 20 = .ok (.aload_n 0, 1) := by decide +kernel
theorem own_d_prog_40_method_2_code_21 : decode prog_40_method_2_code 21 = .ok (.new 12, 3) := by decide +kernel
theorem own_d_prog_40_method_2_code_24 : decode prog_40_method_2_code 24 = .ok (.dup, 1) := by decide +kernel
theorem own_d_prog_40_method_2_code_25 : decode prog_40_method_2_code 25 = .ok (.invokespecial 14, 3) := by decide +kernel
theorem own_d_prog_40_method_2_code_28 : decode prog_40_method_2_code 28 = .ok (.putfield 23, 3) := by decide +kernel
theorem own_d_prog_40_method_2_code_31 : decode prog_40_method_2_code 31 = .ok (.aload_n 0, 1) := by decide +kernel
theorem own_d_prog_40_method_2_code_32 : decode prog_40_method_2_code 32 = .ok (.iload_n 1, 1) := by decide +kernel
theorem own_d_prog_40_method_2_code_33 : decode prog_40_method_2_code 33 = .ok (.putfield 26, 3) := by decide +kernel
theorem own_d_prog_40_method_2_code_36 : decode prog_40_method_2_code 36 = .ok (.aload_n 0, 1) := by decide +kernel
theorem own_d_prog_40_method_2_code_37 : decode prog_40_method_2_code 37 = .ok (.iload_n 2, 1) := by decide +kernel
theorem own_d_prog_40_method_2_code_38 : decode prog_40_method_2_code 38 = .ok (.putfield 30, 3) := by decide +kernel
theorem own_d_prog_40_method_2_code_41 : decode prog_40_method_2_code 41 = .ok (.return_, 1) := by decide +kernel
theorem own_pn_com_example_ledgerleaf_ledgerleaf_Findings : plainName "com/example/ledgerleaf/ledgerleaf/Findings" = true := by first | (simp [plainName, overriddenIn]; done) | decide +kernel
theorem own_d_prog_40_method_5_code_0 : decode prog_40_method_5_code 0 = .ok (.aload_n 0, 1) := by decide +kernel
theorem own_d_prog_40_method_5_code_1 : decode prog_40_method_5_code 1 = .ok (.getfield 39, 3) := by decide +kernel
theorem own_d_prog_40_method_5_code_4 : decode prog_40_method_5_code 4 = .ok (.lconst 0, 1) := by decide +kernel
theorem own_d_prog_40_method_5_code_5 : decode prog_40_method_5_code 5 = .ok (.lcmp, 1) := by decide +kernel
theorem own_d_prog_40_method_5_code_6 : decode prog_40_method_5_code 6 = .ok (.ifCond .ne 7, 3) := by decide +kernel
theorem own_d_prog_40_method_5_code_13 : decode prog_40_method_5_code 13 = .ok (.iconst 0, 1) := by decide +kernel
theorem own_d_prog_40_method_5_code_14 : decode prog_40_method_5_code 14 = .ok (.ireturn, 1) := by decide +kernel
theorem own_d_prog_40_method_5_code_9 : decode prog_40_method_5_code 9 = .ok (.iconst 1, 1) := by decide +kernel
theorem own_d_prog_40_method_5_code_10 : decode prog_40_method_5_code 10 = .ok (.goto 4, 3) := by decide +kernel
theorem own_d_prog_40_method_4_code_0 : decode prog_40_method_4_code 0 = .ok (.aload_n 0, 1) := by decide +kernel
theorem own_d_prog_40_method_4_code_1 : decode prog_40_method_4_code 1 = .ok (.getfield 39, 3) := by decide +kernel
theorem own_d_prog_40_method_4_code_4 : decode prog_40_method_4_code 4 = .ok (.lreturn, 1) := by decide +kernel
theorem own_d_prog_40_method_3_code_0 : decode prog_40_method_3_code 0 = .ok (.aload_n 0, 1) := by decide +kernel
theorem own_d_prog_40_method_3_code_1 : decode prog_40_method_3_code 1 = .ok (.getfield 15, 3) := by decide +kernel
theorem own_d_prog_40_method_3_code_4 : decode prog_40_method_3_code 4 = .ok (.aload_n 1, 1) := by decide +kernel
theorem own_d_prog_40_method_3_code_5 : decode prog_40_method_3_code 5 = .ok (.invokeinterface 33 2, 5) := by decide +kernel
theorem own_d_prog_40_method_3_code_10 : decode prog_40_method_3_code 10 = .ok (.pop, 1) := by decide +kernel
theorem own_d_prog_40_method_3_code_11 : decode prog_40_method_3_code 11 = .ok (.aload_n 0, 1) := by decide +kernel
theorem own_d_prog_40_method_3_code_12 : decode prog_40_method_3_code 12 = .ok (.iconst 0, 1) := by decide +kernel
theorem own_d_prog_40_method_3_code_13 : decode prog_40_method_3_code 13 = .ok (.putfield 19, 3) := by decide +kernel
theorem own_d_prog_40_method_3_code_16 : decode prog_40_method_3_code 16 = .ok (.aload_n 0, 1) := by decide +kernel
theorem own_d_prog_40_method_3_code_17 : decode prog_40_method_3_code 17 = .ok (.dup, 1) := by decide +kernel
theorem own_d_prog_40_method_3_code_18 : decode prog_40_method_3_code 18 = .ok (.getfield 39, 3) := by decide +kernel
theorem own_d_prog_40_method_3_code_21 : decode prog_40_method_3_code 21 = .ok (.lconst 1, 1) := by decide +kernel
theorem own_d_prog_40_method_3_code_22 : decode prog_40_method_3_code 22 = .ok (.ladd, 1) := by decide +kernel
theorem own_d_prog_40_method_3_code_23 : decode prog_40_method_3_code 23 = .ok (.putfield 39, 3) := by decide +kernel
theorem own_d_prog_40_method_3_code_26 : decode prog_40_method_3_code 26 = .ok (.aload_n 0, 1) := by decide +kernel
theorem own_d_prog_40_method_3_code_27 : decode prog_40_method_3_code 27 = .ok (.dup, 1) := by decide +kernel
theorem own_d_prog_40_method_3_code_28 : decode prog_40_method_3_code 28 = .ok (.getfield 43, 3) := by decide +kernel
theorem own_d_prog_40_method_3_code_31 : decode prog_40_method_3_code 31 = .ok (.aload_n 1, 1) := by decide +kernel
theorem own_d_prog_40_method_3_code_32 : decode prog_40_method_3_code 32 = .ok (.invokevirtual 46, 3) := by decide +kernel
theorem own_d_prog_40_method_3_code_35 : decode prog_40_method_3_code 35 = .ok (.invokevirtual 52, 3) := by decide +kernel
theorem own_d_prog_40_method_3_code_38 : decode prog_40_method_3_code 38 = .ok (.i2l, 1) := by decide +kernel
theorem own_d_prog_40_method_3_code_39 : decode prog_40_method_3_code 39 = .ok (.ladd, 1) := by decide +kernel
theorem own_d_prog_40_method_3_code_40 : decode prog_40_method_3_code 40 = .ok (.putfield 43, 3) := by decide +kernel
theorem own_d_prog_40_method_3_code_43 : decode prog_40_method_3_code 43 = .ok (.aload_n 0, 1) := by decide +kernel
theorem own_d_prog_40_method_3_code_44 : decode prog_40_method_3_code 44 = .ok (.getfield 15, 3) := by decide +kernel
theorem own_d_prog_40_method_3_code_47 : decode prog_40_method_3_code 47 = .ok (.invokeinterface 58 1, 5) := by decide +kernel
theorem own_d_prog_40_method_3_code_52 : decode prog_40_method_3_code 52 = .ok (.aload_n 0, 1) := by decide +kernel
theorem own_d_prog_40_method_3_code_53 : decode prog_40_method_3_code 53 = .ok (.getfield 26, 3) := by decide +kernel
theorem own_d_prog_40_method_3_code_56 : decode prog_40_method_3_code 56 = .ok (.if_icmp .eq 14, 3) := by decide +kernel
theorem own_d_prog_40_method_3_code_59 : decode prog_40_method_3_code 59 = .ok (.aload_n 0, 1) := by decide +kernel
theorem own_d_prog_40_method_3_code_60 : decode prog_40_method_3_code 60 = .ok (.getfield 43, 3) := by decide +kernel
theorem own_d_prog_40_method_3_code_63 : decode prog_40_method_3_code 63 = .ok (.ldc2_w 61, 3) := by decide +kernel
theorem own_d_prog_40_method_3_code_66 : decode prog_40_method_3_code 66 = .ok (.lcmp, 1) := by decide +kernel
theorem own_d_prog_40_method_3_code_67 : decode prog_40_method_3_code 67 = .ok (.ifCond .lt 7, 3) := by decide +kernel
theorem own_d_prog_40_method_3_code_74 : decode prog_40_method_3_code 74 = .ok (.return_, 1) := by decide +kernel
theorem own_d_jdk_49_method_1_code_0 : decode jdk_49_method_1_code 0 = .ok (.aload_n 0, 1) := by decide +kernel
theorem own_d_jdk_49_method_1_code_1 : decode jdk_49_method_1_code 1 = .ok (.aload_n 1, 1) := by decide +kernel
theorem own_d_jdk_49_method_1_code_2 : decode jdk_49_method_1_code 2 = .ok (.putfield 1, 3) := by decide +kernel
theorem own_d_jdk_49_method_1_code_5 : decode jdk_49_method_1_code 5 = .ok (.aload_n 0, 1) := by decide +kernel
theorem own_d_jdk_49_method_1_code_6 : decode jdk_49_method_1_code 6 = .ok (.invokespecial 7, 3) := by decide +kernel
theorem own_d_jdk_49_method_1_code_9 : decode jdk_49_method_1_code 9 = .ok (.aload_n 0, 1) := by decide +kernel
theorem own_d_jdk_49_method_1_code_10 : decode jdk_49_method_1_code 10 = .ok (.iconst (-1), 1) := by decide +kernel
theorem own_d_jdk_49_method_1_code_11 : decode jdk_49_method_1_code 11 = .ok (.putfield 13, 3) := by decide +kernel
theorem own_d_jdk_49_method_1_code_14 : decode jdk_49_method_1_code 14 = .ok (.aload_n 0, 1) := by decide +kernel
theorem own_d_jdk_49_method_1_code_15 : decode jdk_49_method_1_code 15 = .ok (.aload_n 0, 1) := by decide +kernel
theorem own_d_jdk_49_method_1_code_16 : decode jdk_49_method_1_code 16 = .ok (.getfield 1, 3) := by decide +kernel
theorem own_d_jdk_49_method_1_code_19 : decode jdk_49_method_1_code 19 = .ok (.getfield 17, 3) := by decide +kernel
theorem own_d_jdk_49_method_1_code_22 : decode jdk_49_method_1_code 22 = .ok (.putfield 22, 3) := by decide +kernel
theorem own_d_jdk_49_method_1_code_25 : decode jdk_49_method_1_code 25 = .ok (.return_, 1) := by decide +kernel
theorem own_pn_java_util_ArrayList_Itr : plainName "java/util/ArrayList$Itr" = true := by first | (simp [plainName, overriddenIn]; done) | decide +kernel
theorem own_d_jdk_38_method_55_code_0 : decode jdk_38_method_55_code 0 = .ok (.new 267, 3) := by decide +kernel
theorem own_d_jdk_38_method_55_code_3 : decode jdk_38_method_55_code 3 = .ok (.dup, 1) := by decide +kernel
theorem own_d_jdk_38_method_55_code_4 : decode jdk_38_method_55_code 4 = .ok (.aload_n 0, 1) := by decide +kernel
theorem own_d_jdk_38_method_55_code_5 : decode jdk_38_method_55_code 5 = .ok (.invokespecial 269, 3) := by decide +kernel
theorem own_d_jdk_38_method_55_code_8 : decode jdk_38_method_55_code 8 = .ok (.areturn, 1) := by decide +kernel
theorem own_d_jdk_49_method_2_code_0 : decode jdk_49_method_2_code 0 = .ok (.aload_n 0, 1) := by decide +kernel
theorem own_d_jdk_49_method_2_code_1 : decode jdk_49_method_2_code 1 = .ok (.getfield 25, 3) := by decide +kernel
theorem own_d_jdk_49_method_2_code_4 : decode jdk_49_method_2_code 4 = .ok (.aload_n 0, 1) := by decide +kernel
theorem own_d_jdk_49_method_2_code_5 : decode jdk_49_method_2_code 5 = .ok (.getfield 1, 3) := by decide +kernel
theorem own_d_jdk_49_method_2_code_8 : decode jdk_49_method_2_code 8 = .ok (.getfield 28, 3) := by decide +kernel
theorem own_d_jdk_49_method_2_code_11 : decode jdk_49_method_2_code 11 = .ok (.if_icmp .eq 7, 3) := by decide +kernel
theorem own_d_jdk_49_method_2_code_18 : decode jdk_49_method_2_code 18 = .ok (.iconst 0, 1) := by decide +kernel
theorem own_d_jdk_49_method_2_code_19 : decode jdk_49_method_2_code 19 = .ok (.ireturn, 1) := by decide +kernel
theorem own_d_prog_40_method_8_code_0 : decode prog_40_method_8_code 0 = .ok (.aload_n 0, 1) := by decide +kernel
theorem own_d_prog_40_method_8_code_1 : decode prog_40_method_8_code 1 = .ok (.getfield 23, 3) := by decide +kernel
theorem own_d_prog_40_method_8_code_4 : decode prog_40_method_8_code 4 = .ok (.invokeinterface 91 1, 5) := by decide +kernel
theorem own_d_prog_40_method_8_code_9 : decode prog_40_method_8_code 9 = .ok (.astore_n 1, 1) := by decide +kernel
theorem own_d_prog_40_method_8_code_10 : decode prog_40_method_8_code 10 = .ok (.aload_n 1, 1) := by decide +kernel
theorem own_d_prog_40_method_8_code_11 : decode prog_40_method_8_code 11 = .ok (.invokeinterface 92 1, 5) := by decide +kernel
theorem own_d_prog_40_method_8_code_16 : decode prog_40_method_8_code 16 = .ok (.ifCond .eq 23, 3) := by decide +kernel
theorem own_d_prog_40_method_8_code_39 : decode prog_40_method_8_code 39 = .ok (.aload_n 0, 1) := by decide +kernel
theorem own_d_prog_40_method_8_code_40 : decode prog_40_method_8_code 40 = .ok (.getfield 23, 3) := by decide +kernel
theorem own_d_prog_40_method_8_code_43 : decode prog_40_method_8_code 43 = .ok (.invokeinterface 128 1, 5) := by decide +kernel
theorem own_d_prog_40_method_8_code_48 : decode prog_40_method_8_code 48 = .ok (.aload_n 0, 1) := by decide +kernel
theorem own_d_prog_40_method_8_code_49 : decode prog_40_method_8_code 49 = .ok (.getfield 15, 3) := by decide +kernel
theorem own_d_prog_40_method_8_code_52 : decode prog_40_method_8_code 52 = .ok (.invokeinterface 128 1, 5) := by decide +kernel
theorem own_d_prog_40_method_8_code_57 : decode prog_40_method_8_code 57 = .ok (.aload_n 0, 1) := by decide +kernel
theorem own_d_prog_40_method_8_code_58 : decode prog_40_method_8_code 58 = .ok (.lconst 0, 1) := by decide +kernel
theorem own_d_prog_40_method_8_code_59 : decode prog_40_method_8_code 59 = .ok (.putfield 43, 3) := by decide +kernel
theorem own_d_prog_40_method_8_code_62 : decode prog_40_method_8_code 62 = .ok (.aload_n 0, 1) := by decide +kernel
theorem own_d_prog_40_method_8_code_63 : decode prog_40_method_8_code 63 = .ok (.iconst 1, 1) := by decide +kernel
theorem own_d_prog_40_method_8_code_64 : decode prog_40_method_8_code 64 = .ok (.putfield 19, 3) := by decide +kernel
theorem own_d_prog_40_method_8_code_67 : decode prog_40_method_8_code 67 = .ok (.aload_n 0, 1) := by decide +kernel
theorem own_d_prog_40_method_8_code_68 : decode prog_40_method_8_code 68 = .ok (.lconst 0, 1) := by decide +kernel
theorem own_d_prog_40_method_8_code_69 : decode prog_40_method_8_code 69 = .ok (.putfield 39, 3) := by decide +kernel
theorem own_d_prog_40_method_8_code_72 : decode prog_40_method_8_code 72 = .ok (.return_, 1) := by decide +kernel
theorem own_pn_com_example_ledgerleaf_ledgerleaf_FindingsIsEmptyPinLaw : plainName "com/example/ledgerleaf/ledgerleaf/FindingsIsEmptyPinLaw" = true := by first | (simp [plainName, overriddenIn]; done) | decide +kernel
set_option maxRecDepth 65536 in
theorem own_hws {a0 : Array Value} {Z : State} (hw : ∀ d ∈ tables_1, d.before a0 Z = true) : ∀ d ∈ StrChars.Road.words, d.before a0 Z = true := fun d hd => hw d ((by decide +kernel : ∀ d ∈ StrChars.Road.words, d ∈ tables_1) d hd)
set_option maxRecDepth 65536 in
theorem own_hln {a0 : Array Value} {Z : State} (hw : ∀ d ∈ tables_1, d.before a0 Z = true) : ∀ d ∈ StrChars.Road.wordsLen, d.before a0 Z = true := fun d hd => hw d ((by decide +kernel : ∀ d ∈ StrChars.Road.wordsLen, d ∈ tables_1) d hd)
theorem own_arr0 {args : Array Value} {s : State} {t : Term} {a : Addr} {ty : FieldType} (hf : Fit s) (ev : t.eval args s none [] s = some (.ref a)) (h : (Jvm.Cond.arrayOf t ty).value args s none s [] = some true) (hl : (Jvm.Cond.eq (.length t) (.int 0)).value args s none s [] = some true) : ∃ k, Arv s s.heap a k ty (0 : Int32) [] (.null) := by
  obtain ⟨cl, A⟩ := Arr.start ev h
  have ha := Arr.fin (Vm.Alike.refl _) A
  have hsz : cl.slots.size = 0 := by
    by_cases q : cl.slots.size < 2 ^ 31
    · have e := len_f ev ha q
      have e2 : cl.slots.size.toInt32 = (0 : Int32) := gotT (Cond.eq_ints e (Term.int_eval (0))) hl
      have e3 := len_toInt q
      rw [e2] at e3
      have e4 : (0 : Int32).toInt = 0 := rfl
      omega
    · simp [Cond.value, Term.eval, ev, ha, q] at hl
  exact ⟨cl.cls, Arv.start hf A (by omega) (by rw [hsz]; rfl) (by decide) (by decide) trivial⟩
set_option maxRecDepth 65536 in
set_option maxHeartbeats 40000000 in
theorem own_rec (l : Launch) (Z : State) (a0 : Array Value) (hw : ∀ d ∈ tables_1, d.before a0 Z = true) (a1 : Addr) (h0 : Heap) (n0 : Nat)  :
    own_Met l (⟨"java/lang/Record", "<init>", "()V"⟩ : MethodName) jdk_30_method_1_code 1 none ({ frames := 1, cells := 0, slots := 0, locals := 12 } : Room) Z #[(.ref a1)] h0 (fun v h L => v = none ∧ Fr n0 L ∧ h = h0) := by
  refine own_met (plainFor_of_name own_pn_java_lang_Record) ?_
  intro p e s m below meth c T0 hx hby hml hZ hown hnm hret hlocks X0 e0 hh0
  have ef : entryFrame m #[(.ref a1)] 1 = mkF m 0 #[.val (.ref a1)] [] := by first | (simp [entryFrame, mkF, argsToLocals, Value.category]; done) | rfl
  refine own_entry ef ?_
  have N0 := Fr.nil n0
  refine own_aloadN X0 hx (hb hby own_d_jdk_30_method_1_code_0) rfl rfl rfl ?_
  refine own_initO X0 hx hZ hown (hw _ (List.mem_of_getElem? (i := 149) rfl)) (hw _ (List.mem_of_getElem? (i := 12) rfl)) (hw _ (List.mem_of_getElem? (i := 13) rfl)) e0 (by rw [hml]; rfl) (hb hby own_d_jdk_30_method_1_code_1) 0 rfl (by decide) (by decide) rfl ?_
  intro T1 X1 e1
  exact own_ret X1 hx hlocks hret (hb hby own_d_jdk_30_method_1_code_4) (by decide) (by decide) ⟨rfl, N0, e1⟩
def own_AL (Z : State) (h : Heap) (a ed : Addr) (m n : Int32) : Prop := Exa Z h a "java/util/ArrayList" ∧ Fld Z h a "java/util/AbstractList" "modCount" "I" (.int m) ∧ Fld Z h a "java/util/ArrayList" "elementData" "[Ljava/lang/Object;" (.ref ed) ∧ Fld Z h a "java/util/ArrayList" "size" "I" (.int n)
set_option maxRecDepth 65536 in
set_option maxHeartbeats 40000000 in
theorem own_aci (l : Launch) (Z : State) (a0 : Array Value) (hw : ∀ d ∈ tables_1, d.before a0 Z = true) (a1 : Addr) (h0 : Heap) (n0 : Nat)  :
    own_Met l (⟨"java/util/AbstractCollection", "<init>", "()V"⟩ : MethodName) jdk_22_method_1_code 1 none ({ frames := 1, cells := 0, slots := 0, locals := 12 } : Room) Z #[(.ref a1)] h0 (fun v h L => v = none ∧ Fr n0 L ∧ h = h0) := by
  refine own_met (plainFor_of_name own_pn_java_util_AbstractCollection) ?_
  intro p e s m below meth c T0 hx hby hml hZ hown hnm hret hlocks X0 e0 hh0
  have ef : entryFrame m #[(.ref a1)] 1 = mkF m 0 #[.val (.ref a1)] [] := by first | (simp [entryFrame, mkF, argsToLocals, Value.category]; done) | rfl
  refine own_entry ef ?_
  have N0 := Fr.nil n0
  refine own_aloadN X0 hx (hb hby own_d_jdk_22_method_1_code_0) rfl rfl rfl ?_
  refine own_initO X0 hx hZ hown (hw _ (List.mem_of_getElem? (i := 55) rfl)) (hw _ (List.mem_of_getElem? (i := 12) rfl)) (hw _ (List.mem_of_getElem? (i := 13) rfl)) e0 (by rw [hml]; rfl) (hb hby own_d_jdk_22_method_1_code_1) 0 rfl (by decide) (by decide) rfl ?_
  intro T1 X1 e1
  exact own_ret X1 hx hlocks hret (hb hby own_d_jdk_22_method_1_code_4) (by decide) (by decide) ⟨rfl, N0, e1⟩
set_option maxRecDepth 65536 in
set_option maxHeartbeats 40000000 in
theorem own_abl (l : Launch) (Z : State) (a0 : Array Value) (hw : ∀ d ∈ tables_1, d.before a0 Z = true) (a1 : Addr) (h0 : Heap) (n0 : Nat) (g_a1 : n0 ≤ a1) (E0 : Exa Z h0 a1 "java/util/ArrayList") (F1 : Fld Z h0 a1 "java/util/AbstractList" "modCount" "I" (.int (0 : Int32))) (F2 : Fld Z h0 a1 "java/util/ArrayList" "elementData" "[Ljava/lang/Object;" .null) (F3 : Fld Z h0 a1 "java/util/ArrayList" "size" "I" (.int (0 : Int32))) :
    own_Met l (⟨"java/util/AbstractList", "<init>", "()V"⟩ : MethodName) jdk_39_method_1_code 1 none ({ frames := 2, cells := 0, slots := 0, locals := 24 } : Room) Z #[(.ref a1)] h0 (fun v h L => v = none ∧ Fr n0 L ∧ Keep h0 h [a1] ∧ Exa Z h a1 "java/util/ArrayList" ∧ Fld Z h a1 "java/util/AbstractList" "modCount" "I" (.int (0 : Int32)) ∧ Fld Z h a1 "java/util/ArrayList" "elementData" "[Ljava/lang/Object;" .null ∧ Fld Z h a1 "java/util/ArrayList" "size" "I" (.int (0 : Int32))) := by
  refine own_met (plainFor_of_name own_pn_java_util_AbstractList) ?_
  intro p e s m below meth c T0 hx hby hml hZ hown hnm hret hlocks X0 e0 hh0
  have ef : entryFrame m #[(.ref a1)] 1 = mkF m 0 #[.val (.ref a1)] [] := by first | (simp [entryFrame, mkF, argsToLocals, Value.category]; done) | rfl
  refine own_entry ef ?_
  have N0 := Fr.nil n0
  have K0 := Keep.refl h0 [a1]
  refine own_aloadN X0 hx (hb hby own_d_jdk_39_method_1_code_0) rfl rfl rfl ?_
  refine own_special X0 hx hZ (y := (⟨"java/util/AbstractCollection", "<init>", "()V"⟩ : MethodName)) rfl hown (hw _ (List.mem_of_getElem? (i := 49) rfl)) (hw _ (List.mem_of_getElem? (i := 50) rfl)) (hw _ (List.mem_of_getElem? (i := 53) rfl)) (hw _ (List.mem_of_getElem? (i := 54) rfl)) (by decide) e0 (by decide) (W := 0) (by decide) (by decide) (by decide) [] [] (by rw [hml]; rfl) (a := a1) (own_aci l Z a0 hw a1 h0 n0) own_pd0 rfl rfl rfl (hb hby own_d_jdk_39_method_1_code_1) rfl ?_
  intro v1 T1 L1 X1 hQ1
  obtain ⟨rfl, Nq1, hh1⟩ := hQ1
  have N1 := Fr.app N0 Nq1
  show own_Ends p e below _ (T1.setTop (mkF m 4 #[.val (.ref a1)] []))
  refine own_aloadN X1 hx (hb hby own_d_jdk_39_method_1_code_4) rfl rfl rfl ?_
  refine own_iconst X1 hx (0 : Int32) (hb hby own_d_jdk_39_method_1_code_5) (by decide) rfl ?_
  refine own_putF X1 hx hZ hown (host := "") (Or.inl (hw _ (List.mem_of_getElem? (i := 56) rfl))) Via.refl hh1 F1 E0 (Or.inl (hw _ (List.mem_of_getElem? (i := 57) rfl))) (hw _ (List.mem_of_getElem? (i := 38) rfl)) (ty := .int) (by decide) rfl rfl N1 g_a1 (hb hby own_d_jdk_39_method_1_code_6) rfl ?_
  intro T2 h2 X2 e2 W2 N2
  have K3 := K0.wr W2 (Or.inl (List.mem_of_getElem? (i := 0) rfl))
  have f4 := F1.same W2
  have f5 := (E0.wr W2)
  have f6 := (F2.other W2 (Or.inr (slot_ne (Or.inl (hw _ (List.mem_of_getElem? (i := 60) rfl))) (Or.inl (hw _ (List.mem_of_getElem? (i := 57) rfl))) (by decide) (t := (.array (.object "java/lang/Object"))) (t' := .int) (by decide) (by decide))))
  have f7 := (F3.other W2 (Or.inr (slot_ne (Or.inl (hw _ (List.mem_of_getElem? (i := 125) rfl))) (Or.inl (hw _ (List.mem_of_getElem? (i := 57) rfl))) (by decide) (t := .int) (t' := .int) (by decide) (by decide))))
  exact own_ret X2 hx hlocks hret (hb hby own_d_jdk_39_method_1_code_9) (by decide) (by decide) ⟨rfl, N2, by rw [e2]; exact ⟨K3, f5, f4, f6, f7⟩⟩
set_option maxRecDepth 65536 in
set_option maxHeartbeats 40000000 in
theorem own_ali (l : Launch) (Z : State) (a0 : Array Value) (hw : ∀ d ∈ tables_1, d.before a0 Z = true) (a1 de : Addr) (kd : ClassId) (h0 : Heap) (n0 : Nat) (O0 : Old Z n0 h0) (g_a1 : n0 ≤ a1) (SD : Sta Z Z.heap "java/util/ArrayList" "DEFAULTCAPACITY_EMPTY_ELEMENTDATA" "[Ljava/lang/Object;" (.ref de)) (VD : Arv Z Z.heap de kd (.object "java/lang/Object") (0 : Int32) [] .null) (E0 : Exa Z h0 a1 "java/util/ArrayList") (D0 : (∀ {O nm d : String} {ty : FieldType}, Laid Z a0 "java/util/ArrayList" O nm d → parseFieldDescriptor d = some ty → Fld Z h0 a1 O nm d (defaultValue ty))) :
    own_Met l (⟨"java/util/ArrayList", "<init>", "()V"⟩ : MethodName) jdk_38_method_2_code 1 none ({ frames := 3, cells := 0, slots := 0, locals := 36 } : Room) Z #[(.ref a1)] h0 (fun v h L => v = none ∧ Fr n0 L ∧ Keep h0 h [a1] ∧ own_AL Z h a1 de 0 0) := by
  refine own_met (plainFor_of_name own_pn_java_util_ArrayList) ?_
  intro p e s m below meth c T0 hx hby hml hZ hown hnm hret hlocks X0 e0 hh0
  have ef : entryFrame m #[(.ref a1)] 1 = mkF m 0 #[.val (.ref a1)] [] := by first | (simp [entryFrame, mkF, argsToLocals, Value.category]; done) | rfl
  refine own_entry ef ?_
  have N0 := Fr.nil n0
  have K0 := Keep.refl h0 [a1]
  have Fa1_modCount : Fld Z h0 a1 "java/util/AbstractList" "modCount" "I" (.int (0 : Int32)) := D0 (Or.inl (hw _ (List.mem_of_getElem? (i := 57) rfl))) (ty := .int) (by decide)
  have Fa1_elementData : Fld Z h0 a1 "java/util/ArrayList" "elementData" "[Ljava/lang/Object;" .null := D0 (Or.inl (hw _ (List.mem_of_getElem? (i := 60) rfl))) (ty := (.array (.object "java/lang/Object"))) (by decide)
  have Fa1_size : Fld Z h0 a1 "java/util/ArrayList" "size" "I" (.int (0 : Int32)) := D0 (Or.inl (hw _ (List.mem_of_getElem? (i := 125) rfl))) (ty := .int) (by decide)
  refine own_aloadN X0 hx (hb hby own_d_jdk_38_method_2_code_0) rfl rfl rfl ?_
  refine own_special X0 hx hZ (y := (⟨"java/util/AbstractList", "<init>", "()V"⟩ : MethodName)) rfl hown (hw _ (List.mem_of_getElem? (i := 43) rfl)) (hw _ (List.mem_of_getElem? (i := 44) rfl)) (hw _ (List.mem_of_getElem? (i := 47) rfl)) (hw _ (List.mem_of_getElem? (i := 48) rfl)) (by decide) e0 (by decide) (W := 0) (by decide) (by decide) (by decide) [] [] (by rw [hml]; rfl) (a := a1) (own_abl l Z a0 hw a1 h0 n0 g_a1 E0 Fa1_modCount Fa1_elementData Fa1_size) own_pd0 rfl rfl rfl (hb hby own_d_jdk_38_method_2_code_1) rfl ?_
  intro v1 T1 L1 X1 hQ1
  obtain ⟨rfl, Nq1, Kq1, El1, Ml1, Dl1, Sl1⟩ := hQ1
  have N1 := Fr.app N0 Nq1
  have K2 := K0.trans Kq1 (allS (Or.inl (List.mem_of_getElem? (i := 0) rfl)) all0)
  show own_Ends p e below _ (T1.setTop (mkF m 4 #[.val (.ref a1)] []))
  refine own_aloadN X1 hx (hb hby own_d_jdk_38_method_2_code_4) rfl rfl rfl ?_
  have f3 := (O0.keep Kq1 (allS g_a1 all0))
  refine own_getS X1 hx hZ hown (host := "") (Or.inl (hw _ (List.mem_of_getElem? (i := 58) rfl))) Via.refl rfl (SD.ext f3.2) (hb hby own_d_jdk_38_method_2_code_5) rfl ?_
  intro T4 X4 e4
  refine own_putF X4 hx hZ hown (host := "") (Or.inl (hw _ (List.mem_of_getElem? (i := 59) rfl))) Via.refl e4 Dl1 El1 (Or.inl (hw _ (List.mem_of_getElem? (i := 60) rfl))) (hw _ (List.mem_of_getElem? (i := 38) rfl)) (ty := (.array (.object "java/lang/Object"))) (by decide) rfl rfl N1 g_a1 (hb hby own_d_jdk_38_method_2_code_8) rfl ?_
  intro T5 h5 X5 e5 W5 N5
  have K6 := K2.wr W5 (Or.inl (List.mem_of_getElem? (i := 0) rfl))
  have f7 := Dl1.same W5
  have f8 := (El1.wr W5)
  have f9 := (Ml1.other W5 (Or.inr (slot_ne (Or.inl (hw _ (List.mem_of_getElem? (i := 57) rfl))) (Or.inl (hw _ (List.mem_of_getElem? (i := 60) rfl))) (by decide) (t := .int) (t' := (.array (.object "java/lang/Object"))) (by decide) (by decide))))
  have f10 := (Sl1.other W5 (Or.inr (slot_ne (Or.inl (hw _ (List.mem_of_getElem? (i := 125) rfl))) (Or.inl (hw _ (List.mem_of_getElem? (i := 60) rfl))) (by decide) (t := .int) (t' := (.array (.object "java/lang/Object"))) (by decide) (by decide))))
  exact own_ret X5 hx hlocks hret (hb hby own_d_jdk_38_method_2_code_11) (by decide) (by decide) ⟨rfl, N5, by rw [e5]; exact ⟨K6, ⟨f8, f9, f7, f10⟩⟩⟩
set_option maxRecDepth 65536 in
set_option maxHeartbeats 40000000 in
theorem own_max (l : Launch) (Z : State) (a0 : Array Value) (hw : ∀ d ∈ tables_1, d.before a0 Z = true) (p1 p2 : Int32) (h0 : Heap) (n0 : Nat) (hp : ¬ p1 < p2) :
    own_Met l (⟨"java/lang/Math", "max", "(II)I"⟩ : MethodName) jdk_29_method_65_code 2 (some .int) ({ frames := 0, cells := 0, slots := 0, locals := 0 } : Room) Z #[(.int p1), (.int p2)] h0 (fun v h L => v = some (.int p1) ∧ Fr n0 L ∧ h = h0) := by
  refine own_met (Jvm.Free.JP.mathPlain rfl (by decide +kernel)) ?_
  intro p e s m below meth c T0 hx hby hml hZ hown hnm hret hlocks X0 e0 hh0
  have ef : entryFrame m #[(.int p1), (.int p2)] 2 = mkF m 0 #[.val (.int p1), .val (.int p2)] [] := by first | (simp [entryFrame, mkF, argsToLocals, Value.category]; done) | rfl
  refine own_entry ef ?_
  have N0 := Fr.nil n0
  refine own_iloadN X0 hx (hb hby own_d_jdk_29_method_65_code_0) rfl rfl ?_
  refine own_iloadN X0 hx (hb hby own_d_jdk_29_method_65_code_1) rfl rfl ?_
  refine own_icmpF X0 hx (hb hby own_d_jdk_29_method_65_code_2) rfl (flt hp).1 ?_
  refine own_iloadN X0 hx (hb hby own_d_jdk_29_method_65_code_5) rfl rfl ?_
  refine own_goto X0 hx (hb hby own_d_jdk_29_method_65_code_6) (by decide) rfl ?_
  exact own_retI X0 hx hlocks hret (hb hby own_d_jdk_29_method_65_code_10) (by decide) (by decide) ⟨rfl, N0, e0⟩
set_option maxRecDepth 65536 in
set_option maxHeartbeats 40000000 in
theorem own_growI (l : Launch) (Z : State) (a0 : Array Value) (hw : ∀ d ∈ tables_1, d.before a0 Z = true) (a1 de : Addr) (kd : ClassId) (mc : Int32) (h0 : Heap) (n0 : Nat) (O0 : Old Z n0 h0) (g_a1 : n0 ≤ a1) (SD : Sta Z Z.heap "java/util/ArrayList" "DEFAULTCAPACITY_EMPTY_ELEMENTDATA" "[Ljava/lang/Object;" (.ref de)) (VD : Arv Z Z.heap de kd (.object "java/lang/Object") (0 : Int32) [] .null) (L0 : own_AL Z h0 a1 de mc 0) :
    own_Met l (⟨"java/util/ArrayList", "grow", "(I)[Ljava/lang/Object;"⟩ : MethodName) jdk_38_method_6_code 4 (some (.array (.object "java/lang/Object"))) ({ frames := 1, cells := 1, slots := 10, locals := 14 } : Room) Z #[(.ref a1), (.int (1 : Int32))] h0 (fun v h L => ∃ (b : Addr) (k : ClassId), v = some (.ref b) ∧ Fr n0 L ∧ Keep h0 h [a1] ∧ n0 ≤ b ∧ h0.size ≤ b ∧ own_AL Z h a1 b mc 0 ∧ Arv Z h b k (.object "java/lang/Object") (10 : Int32) [.null, .null, .null, .null, .null, .null, .null, .null, .null, .null] .null ∧ Ovr Z k "java/lang/Object") := by
  refine own_met (plainFor_of_name own_pn_java_util_ArrayList) ?_
  intro p e s m below meth c T0 hx hby hml hZ hown hnm hret hlocks X0 e0 hh0
  have ef : entryFrame m #[(.ref a1), (.int (1 : Int32))] 4 = mkF m 0 #[.val (.ref a1), .val (.int (1 : Int32)), .unset, .unset] [] := by first | (simp [entryFrame, mkF, argsToLocals, Value.category]; done) | rfl
  refine own_entry ef ?_
  have N0 := Fr.nil n0
  have K0 := Keep.refl h0 [a1]
  obtain ⟨El0, Ml0, Dl0, Sl0⟩ := L0
  refine own_aloadN X0 hx (hb hby own_d_jdk_38_method_6_code_0) rfl rfl rfl ?_
  refine own_getF X0 hx hZ hown (host := "") (Or.inl (hw _ (List.mem_of_getElem? (i := 59) rfl))) Via.refl e0 Dl0 (hb hby own_d_jdk_38_method_6_code_1) rfl ?_
  intro T1 X1 e1
  refine own_arraylength X1 hx hZ e1 (VD.ext O0.2) (hb hby own_d_jdk_38_method_6_code_4) rfl ?_
  refine own_istoreN X1 hx #[.val (.ref a1), .val (.int (1 : Int32)), .val (.int (0 : Int32)), .unset] (hb hby own_d_jdk_38_method_6_code_5) rfl rfl ?_
  refine own_iloadN X1 hx (hb hby own_d_jdk_38_method_6_code_6) rfl rfl ?_
  refine own_ifF X1 hx (hb hby own_d_jdk_38_method_6_code_7) rfl (by decide) ?_
  refine own_aloadN X1 hx (hb hby own_d_jdk_38_method_6_code_10) rfl rfl rfl ?_
  refine own_getF X1 hx hZ hown (host := "") (Or.inl (hw _ (List.mem_of_getElem? (i := 59) rfl))) Via.refl e1 Dl0 (hb hby own_d_jdk_38_method_6_code_11) rfl ?_
  intro T2 X2 e2
  refine own_getS X2 hx hZ hown (host := "") (Or.inl (hw _ (List.mem_of_getElem? (i := 58) rfl))) Via.refl e2 (SD.ext O0.2) (hb hby own_d_jdk_38_method_6_code_14) rfl ?_
  intro T3 X3 e3
  refine own_acmp_eq X3 hx (hb hby own_d_jdk_38_method_6_code_17) (by decide) rfl rfl (fun hc17_4 => ?_) (fun hc17_4 => absurd rfl hc17_4)
  refine own_aloadN X3 hx (hb hby own_d_jdk_38_method_6_code_45) rfl rfl rfl ?_
  refine own_bipush X3 hx (10 : Int32) (hb hby own_d_jdk_38_method_6_code_46) (by decide) rfl ?_
  refine own_iloadN X3 hx (hb hby own_d_jdk_38_method_6_code_48) rfl rfl ?_
  refine own_static X3 hx hZ (y := (⟨"java/lang/Math", "max", "(II)I"⟩ : MethodName)) hown (hw _ (List.mem_of_getElem? (i := 182) rfl)) (hw _ (List.mem_of_getElem? (i := 183) rfl)) (hw _ (List.mem_of_getElem? (i := 184) rfl)) (hw _ (List.mem_of_getElem? (i := 185) rfl)) (by decide) e3 (by decide) (W := 1) (by decide) (by decide) (by decide) [(.int (10 : Int32)), (.int (1 : Int32))] [(.ref a1)] (by rw [hml]; rfl) (own_max l Z a0 hw (10 : Int32) (1 : Int32) h0 n0 (by decide)) own_pd1 rfl rfl rfl (hb hby own_d_jdk_38_method_6_code_49) rfl ?_
  intro v5 T5 L5 X5 hQ5
  obtain ⟨rfl, Nq5, hh5⟩ := hQ5
  have N5 := Fr.app N0 Nq5
  show own_Ends p e below _ (T5.setTop (mkF m 52 #[.val (.ref a1), .val (.int (1 : Int32)), .val (.int (0 : Int32)), .unset] [(.int (10 : Int32)), (.ref a1)]))
  refine own_newR X5 hx hZ hown (hw _ (List.mem_of_getElem? (i := 186) rfl)) (hw _ (List.mem_of_getElem? (i := 187) rfl)) hh5 (hb hby own_d_jdk_38_method_6_code_52) (by decide) 10 (by decide) (by decide) (by decide) (by decide) rfl ?_
  intro T6 h6 b6 k6 X6 e6 g6 E6 V6q Ov6
  have g_b6 : n0 ≤ b6 := Nat.le_trans (own_oz O0) (Nat.le_of_eq g6.symm)
  have sz_b6 : h0.size ≤ b6 := Nat.le_trans K0.1 (Nat.le_of_eq g6.symm)
  have K7 := K0.ext E6
  have V6 : Arv Z h6 b6 k6 (.object "java/lang/Object") (10 : Int32) [.null, .null, .null, .null, .null, .null, .null, .null, .null, .null] .null := Arv.pad V6q (pad_rep [] .null 10)
  refine own_dup_x1 X6 hx (hb hby own_d_jdk_38_method_6_code_55) rfl rfl rfl ?_
  have f8 := (Dl0.ext E6)
  have f9 := (El0.ext E6)
  refine own_putF X6 hx hZ hown (host := "") (Or.inl (hw _ (List.mem_of_getElem? (i := 59) rfl))) Via.refl e6 f8 f9 (Or.inl (hw _ (List.mem_of_getElem? (i := 60) rfl))) (hw _ (List.mem_of_getElem? (i := 38) rfl)) (ty := (.array (.object "java/lang/Object"))) (by decide) rfl rfl N5 g_a1 (hb hby own_d_jdk_38_method_6_code_56) rfl ?_
  intro T10 h10 X10 e10 W10 N10
  have K11 := K7.wr W10 (Or.inl (List.mem_of_getElem? (i := 0) rfl))
  have f12 := f8.same W10
  have f13 := (f9.wr W10)
  have f14 := ((Ml0.ext E6).other W10 (Or.inr (slot_ne (Or.inl (hw _ (List.mem_of_getElem? (i := 57) rfl))) (Or.inl (hw _ (List.mem_of_getElem? (i := 60) rfl))) (by decide) (t := .int) (t' := (.array (.object "java/lang/Object"))) (by decide) (by decide))))
  have f15 := ((Sl0.ext E6).other W10 (Or.inr (slot_ne (Or.inl (hw _ (List.mem_of_getElem? (i := 125) rfl))) (Or.inl (hw _ (List.mem_of_getElem? (i := 60) rfl))) (by decide) (t := .int) (t' := (.array (.object "java/lang/Object"))) (by decide) (by decide))))
  have f16 := (V6.other W10 (Ne.symm (Nat.ne_of_lt (Nat.lt_of_lt_of_le El0.lt (Nat.le_of_eq g6.symm)))))
  exact own_retA X10 hx hlocks hret rfl rfl (hb hby own_d_jdk_38_method_6_code_59) (by decide) (by decide) ⟨b6, _, rfl, N10, by rw [e10]; exact ⟨K11, g_b6, sz_b6, ⟨f13, f14, f12, f15⟩, f16, Ov6⟩⟩
set_option maxRecDepth 65536 in
set_option maxHeartbeats 40000000 in
theorem own_grow0 (l : Launch) (Z : State) (a0 : Array Value) (hw : ∀ d ∈ tables_1, d.before a0 Z = true) (a1 de : Addr) (kd : ClassId) (mc : Int32) (h0 : Heap) (n0 : Nat) (O0 : Old Z n0 h0) (g_a1 : n0 ≤ a1) (SD : Sta Z Z.heap "java/util/ArrayList" "DEFAULTCAPACITY_EMPTY_ELEMENTDATA" "[Ljava/lang/Object;" (.ref de)) (VD : Arv Z Z.heap de kd (.object "java/lang/Object") (0 : Int32) [] .null) (L0 : own_AL Z h0 a1 de mc 0) :
    own_Met l (⟨"java/util/ArrayList", "grow", "()[Ljava/lang/Object;"⟩ : MethodName) jdk_38_method_7_code 1 (some (.array (.object "java/lang/Object"))) ({ frames := 2, cells := 1, slots := 10, locals := 29 } : Room) Z #[(.ref a1)] h0 (fun v h L => ∃ (b : Addr) (k : ClassId), v = some (.ref b) ∧ Fr n0 L ∧ Keep h0 h [a1] ∧ n0 ≤ b ∧ h0.size ≤ b ∧ own_AL Z h a1 b mc 0 ∧ Arv Z h b k (.object "java/lang/Object") (10 : Int32) [.null, .null, .null, .null, .null, .null, .null, .null, .null, .null] .null ∧ Ovr Z k "java/lang/Object") := by
  refine own_met (plainFor_of_name own_pn_java_util_ArrayList) ?_
  intro p e s m below meth c T0 hx hby hml hZ hown hnm hret hlocks X0 e0 hh0
  have ef : entryFrame m #[(.ref a1)] 1 = mkF m 0 #[.val (.ref a1)] [] := by first | (simp [entryFrame, mkF, argsToLocals, Value.category]; done) | rfl
  refine own_entry ef ?_
  have N0 := Fr.nil n0
  have K0 := Keep.refl h0 [a1]
  obtain ⟨El0, Ml0, Dl0, Sl0⟩ := L0
  refine own_aloadN X0 hx (hb hby own_d_jdk_38_method_7_code_0) rfl rfl rfl ?_
  refine own_aloadN X0 hx (hb hby own_d_jdk_38_method_7_code_1) rfl rfl rfl ?_
  refine own_getF X0 hx hZ hown (host := "") (Or.inl (hw _ (List.mem_of_getElem? (i := 135) rfl))) Via.refl e0 Sl0 (hb hby own_d_jdk_38_method_7_code_2) rfl ?_
  intro T1 X1 e1
  refine own_iconst X1 hx (1 : Int32) (hb hby own_d_jdk_38_method_7_code_5) (by decide) rfl ?_
  refine own_iadd X1 hx (hb hby own_d_jdk_38_method_7_code_6) rfl ?_
  rw [show ((0 : Int32) + (1 : Int32)) = (1 : Int32) from by decide]
  refine own_private X1 hx hZ (y := (⟨"java/util/ArrayList", "grow", "(I)[Ljava/lang/Object;"⟩ : MethodName)) hown (hw _ (List.mem_of_getElem? (i := 177) rfl)) (own_nf (z := (⟨"java/util/ArrayList", "iterator", "()Ljava/util/Iterator;"⟩ : MethodName)) hZ (hw _ (List.mem_of_getElem? (i := 91) rfl))) (hw _ (List.mem_of_getElem? (i := 178) rfl)) (hw _ (List.mem_of_getElem? (i := 179) rfl)) (hw _ (List.mem_of_getElem? (i := 39) rfl)) (hw _ (List.mem_of_getElem? (i := 181) rfl)) (by decide) e1 (by decide) (W := 0) (by decide) (by decide) (by decide) [(.int (1 : Int32))] [] (by rw [hml]; rfl) El0 (own_growI l Z a0 hw a1 de kd mc h0 n0 O0 g_a1 SD VD ⟨El0, Ml0, Dl0, Sl0⟩) own_pd2 rfl rfl rfl (hb hby own_d_jdk_38_method_7_code_7) rfl ?_
  intro v2 T2 L2 X2 hQ2
  obtain ⟨b2, k2, rfl, Nq2, Kq2, g_b2, sz_b2, Al2, V2, Ov2⟩ := hQ2
  have sz_b2 := Nat.le_trans K0.1 sz_b2
  have N2 := Fr.app N0 Nq2
  have K3 := K0.trans Kq2 (allS (Or.inl (List.mem_of_getElem? (i := 0) rfl)) all0)
  obtain ⟨El2, Ml2, Dl2, Sl2⟩ := Al2
  show own_Ends p e below _ (T2.setTop (mkF m 10 #[.val (.ref a1)] [(.ref b2)]))
  exact own_retA X2 hx hlocks hret rfl rfl (hb hby own_d_jdk_38_method_7_code_10) (by decide) (by decide) ⟨b2, _, rfl, N2, by exact ⟨K3, g_b2, sz_b2, ⟨El2, Ml2, Dl2, Sl2⟩, V2, Ov2⟩⟩
set_option maxRecDepth 65536 in
set_option maxHeartbeats 40000000 in
theorem own_add3E (l : Launch) (Z : State) (a0 : Array Value) (hw : ∀ d ∈ tables_1, d.before a0 Z = true) (a1 el1 de : Addr) (kd : ClassId) (mc : Int32) (h0 : Heap) (n0 : Nat) (O0 : Old Z n0 h0) (g_a1 : n0 ≤ a1) (SD : Sta Z Z.heap "java/util/ArrayList" "DEFAULTCAPACITY_EMPTY_ELEMENTDATA" "[Ljava/lang/Object;" (.ref de)) (VD : Arv Z Z.heap de kd (.object "java/lang/Object") (0 : Int32) [] .null) (L0 : own_AL Z h0 a1 de mc 0) (I0 : Ins Z h0 el1 "java/lang/Object" true) :
    own_Met l (⟨"java/util/ArrayList", "add", "(Ljava/lang/Object;[Ljava/lang/Object;I)V"⟩ : MethodName) jdk_38_method_24_code 4 none ({ frames := 3, cells := 1, slots := 10, locals := 41 } : Room) Z #[(.ref a1), (.ref el1), (.ref de), (.int (0 : Int32))] h0 (fun v h L => v = none ∧ Fr n0 L ∧ Keep h0 h [a1] ∧ ∃ (b : Addr) (k : ClassId), n0 ≤ b ∧ h0.size ≤ b ∧ own_AL Z h a1 b mc 1 ∧ Arv Z h b k (.object "java/lang/Object") (10 : Int32) [(.ref el1), .null, .null, .null, .null, .null, .null, .null, .null, .null] .null ∧ Ovr Z k "java/lang/Object") := by
  refine own_met (plainFor_of_name own_pn_java_util_ArrayList) ?_
  intro p e s m below meth c T0 hx hby hml hZ hown hnm hret hlocks X0 e0 hh0
  have ef : entryFrame m #[(.ref a1), (.ref el1), (.ref de), (.int (0 : Int32))] 4 = mkF m 0 #[.val (.ref a1), .val (.ref el1), .val (.ref de), .val (.int (0 : Int32))] [] := by first | (simp [entryFrame, mkF, argsToLocals, Value.category]; done) | rfl
  refine own_entry ef ?_
  have N0 := Fr.nil n0
  have K0 := Keep.refl h0 [a1]
  obtain ⟨El0, Ml0, Dl0, Sl0⟩ := L0
  refine own_iloadN X0 hx (hb hby own_d_jdk_38_method_24_code_0) rfl rfl ?_
  refine own_aloadN X0 hx (hb hby own_d_jdk_38_method_24_code_1) rfl rfl rfl ?_
  refine own_arraylength X0 hx hZ e0 (VD.ext O0.2) (hb hby own_d_jdk_38_method_24_code_2) rfl ?_
  refine own_icmpF X0 hx (hb hby own_d_jdk_38_method_24_code_3) rfl (by decide) ?_
  refine own_aloadN X0 hx (hb hby own_d_jdk_38_method_24_code_6) rfl rfl rfl ?_
  refine own_private X0 hx hZ (y := (⟨"java/util/ArrayList", "grow", "()[Ljava/lang/Object;"⟩ : MethodName)) hown (hw _ (List.mem_of_getElem? (i := 172) rfl)) (own_nf (z := (⟨"java/util/ArrayList", "iterator", "()Ljava/util/Iterator;"⟩ : MethodName)) hZ (hw _ (List.mem_of_getElem? (i := 91) rfl))) (hw _ (List.mem_of_getElem? (i := 173) rfl)) (hw _ (List.mem_of_getElem? (i := 174) rfl)) (hw _ (List.mem_of_getElem? (i := 39) rfl)) (hw _ (List.mem_of_getElem? (i := 176) rfl)) (by decide) e0 (by decide) (W := 0) (by decide) (by decide) (by decide) [] [] (by rw [hml]; rfl) El0 (own_grow0 l Z a0 hw a1 de kd mc h0 n0 O0 g_a1 SD VD ⟨El0, Ml0, Dl0, Sl0⟩) own_pd3 rfl rfl rfl (hb hby own_d_jdk_38_method_24_code_7) rfl ?_
  intro v1 T1 L1 X1 hQ1
  obtain ⟨b1, k1, rfl, Nq1, Kq1, g_b1, sz_b1, Al1, V1, Ov1⟩ := hQ1
  have sz_b1 := Nat.le_trans K0.1 sz_b1
  have N1 := Fr.app N0 Nq1
  have K2 := K0.trans Kq1 (allS (Or.inl (List.mem_of_getElem? (i := 0) rfl)) all0)
  obtain ⟨El1, Ml1, Dl1, Sl1⟩ := Al1
  show own_Ends p e below _ (T1.setTop (mkF m 10 #[.val (.ref a1), .val (.ref el1), .val (.ref de), .val (.int (0 : Int32))] [(.ref b1)]))
  refine own_astoreN X1 hx #[.val (.ref a1), .val (.ref el1), .val (.ref b1), .val (.int (0 : Int32))] (hb hby own_d_jdk_38_method_24_code_10) rfl rfl rfl ?_
  refine own_aloadN X1 hx (hb hby own_d_jdk_38_method_24_code_11) rfl rfl rfl ?_
  refine own_iloadN X1 hx (hb hby own_d_jdk_38_method_24_code_12) rfl rfl ?_
  refine own_aloadN X1 hx (hb hby own_d_jdk_38_method_24_code_13) rfl rfl rfl ?_
  have f4 := (own_insK I0 Kq1)
  refine own_stR X1 hx hZ rfl V1 rfl rfl (own_sto V1 Ov1 f4) ⟨by decide, by decide⟩ 0 rfl (Nat.le_of_ble_eq_true rfl) N1 g_b1 (hb hby own_d_jdk_38_method_24_code_14) rfl ?_
  intro T3 h3 X3 e3 W3 N3 V3
  have K5 := K2.wr W3 (Or.inr sz_b1)
  refine own_aloadN X3 hx (hb hby own_d_jdk_38_method_24_code_15) rfl rfl rfl ?_
  refine own_iloadN X3 hx (hb hby own_d_jdk_38_method_24_code_16) rfl rfl ?_
  refine own_iconst X3 hx (1 : Int32) (hb hby own_d_jdk_38_method_24_code_17) (by decide) rfl ?_
  refine own_iadd X3 hx (hb hby own_d_jdk_38_method_24_code_18) rfl ?_
  rw [show ((0 : Int32) + (1 : Int32)) = (1 : Int32) from by decide]
  have f6 := (Sl1.other W3 (Or.inl (Exa.neArv El1 V1 (hw _ (List.mem_of_getElem? (i := 38) rfl)))))
  have f7 := (El1.wr W3)
  refine own_putF X3 hx hZ hown (host := "") (Or.inl (hw _ (List.mem_of_getElem? (i := 135) rfl))) Via.refl e3 f6 f7 (Or.inl (hw _ (List.mem_of_getElem? (i := 125) rfl))) (hw _ (List.mem_of_getElem? (i := 38) rfl)) (ty := .int) (by decide) rfl rfl N3 g_a1 (hb hby own_d_jdk_38_method_24_code_19) rfl ?_
  intro T8 h8 X8 e8 W8 N8
  have K9 := K5.wr W8 (Or.inl (List.mem_of_getElem? (i := 0) rfl))
  have f10 := f6.same W8
  have f11 := (f7.wr W8)
  have f12 := ((Ml1.other W3 (Or.inl (Exa.neArv El1 V1 (hw _ (List.mem_of_getElem? (i := 38) rfl))))).other W8 (Or.inr (slot_ne (Or.inl (hw _ (List.mem_of_getElem? (i := 57) rfl))) (Or.inl (hw _ (List.mem_of_getElem? (i := 125) rfl))) (by decide) (t := .int) (t' := .int) (by decide) (by decide))))
  have f13 := ((Dl1.other W3 (Or.inl (Exa.neArv El1 V1 (hw _ (List.mem_of_getElem? (i := 38) rfl))))).other W8 (Or.inr (slot_ne (Or.inl (hw _ (List.mem_of_getElem? (i := 60) rfl))) (Or.inl (hw _ (List.mem_of_getElem? (i := 125) rfl))) (by decide) (t := (.array (.object "java/lang/Object"))) (t' := .int) (by decide) (by decide))))
  have f14 := (V3.other W8 (Ne.symm (Exa.neArv El1 V1 (hw _ (List.mem_of_getElem? (i := 38) rfl)))))
  exact own_ret X8 hx hlocks hret (hb hby own_d_jdk_38_method_24_code_22) (by decide) (by decide) ⟨rfl, N8, by rw [e8]; exact ⟨K9, b1, _, g_b1, sz_b1, ⟨f11, f12, f13, f10⟩, f14, Ov1⟩⟩
set_option maxRecDepth 65536 in
set_option maxHeartbeats 40000000 in
theorem own_addE (l : Launch) (Z : State) (a0 : Array Value) (hw : ∀ d ∈ tables_1, d.before a0 Z = true) (a1 el1 de : Addr) (kd : ClassId) (mc : Int32) (h0 : Heap) (n0 : Nat) (O0 : Old Z n0 h0) (g_a1 : n0 ≤ a1) (SD : Sta Z Z.heap "java/util/ArrayList" "DEFAULTCAPACITY_EMPTY_ELEMENTDATA" "[Ljava/lang/Object;" (.ref de)) (VD : Arv Z Z.heap de kd (.object "java/lang/Object") (0 : Int32) [] .null) (L0 : own_AL Z h0 a1 de mc 0) (I0 : Ins Z h0 el1 "java/lang/Object" true) :
    own_Met l (⟨"java/util/ArrayList", "add", "(Ljava/lang/Object;)Z"⟩ : MethodName) jdk_38_method_25_code 2 (some .boolean) ({ frames := 4, cells := 1, slots := 10, locals := 56 } : Room) Z #[(.ref a1), (.ref el1)] h0 (fun v h L => v = some (.int 1) ∧ Fr n0 L ∧ Keep h0 h [a1] ∧ ∃ (b : Addr) (k : ClassId), n0 ≤ b ∧ h0.size ≤ b ∧ own_AL Z h a1 b (mc + (1 : Int32)) 1 ∧ Arv Z h b k (.object "java/lang/Object") (10 : Int32) [(.ref el1), .null, .null, .null, .null, .null, .null, .null, .null, .null] .null ∧ Ovr Z k "java/lang/Object") := by
  refine own_met (plainFor_of_name own_pn_java_util_ArrayList) ?_
  intro p e s m below meth c T0 hx hby hml hZ hown hnm hret hlocks X0 e0 hh0
  have ef : entryFrame m #[(.ref a1), (.ref el1)] 2 = mkF m 0 #[.val (.ref a1), .val (.ref el1)] [] := by first | (simp [entryFrame, mkF, argsToLocals, Value.category]; done) | rfl
  refine own_entry ef ?_
  have N0 := Fr.nil n0
  have K0 := Keep.refl h0 [a1]
  obtain ⟨El0, Ml0, Dl0, Sl0⟩ := L0
  refine own_aloadN X0 hx (hb hby own_d_jdk_38_method_25_code_0) rfl rfl rfl ?_
  refine own_dup X0 hx (hb hby own_d_jdk_38_method_25_code_1) rfl rfl ?_
  refine own_getF X0 hx hZ hown (host := "") (Or.inl (hw _ (List.mem_of_getElem? (i := 134) rfl))) (Via.of (hw _ (List.mem_of_getElem? (i := 110) rfl))) e0 Ml0 (hb hby own_d_jdk_38_method_25_code_2) rfl ?_
  intro T1 X1 e1
  refine own_iconst X1 hx (1 : Int32) (hb hby own_d_jdk_38_method_25_code_5) (by decide) rfl ?_
  refine own_iadd X1 hx (hb hby own_d_jdk_38_method_25_code_6) rfl ?_
  refine own_putF X1 hx hZ hown (host := "") (Or.inl (hw _ (List.mem_of_getElem? (i := 134) rfl))) (Via.of (hw _ (List.mem_of_getElem? (i := 110) rfl))) e1 Ml0 El0 (Or.inl (hw _ (List.mem_of_getElem? (i := 57) rfl))) (hw _ (List.mem_of_getElem? (i := 38) rfl)) (ty := .int) (by decide) rfl rfl N0 g_a1 (hb hby own_d_jdk_38_method_25_code_7) rfl ?_
  intro T2 h2 X2 e2 W2 N2
  have K3 := K0.wr W2 (Or.inl (List.mem_of_getElem? (i := 0) rfl))
  have f4 := Ml0.same W2
  refine own_aloadN X2 hx (hb hby own_d_jdk_38_method_25_code_10) rfl rfl rfl ?_
  refine own_aloadN X2 hx (hb hby own_d_jdk_38_method_25_code_11) rfl rfl rfl ?_
  refine own_aloadN X2 hx (hb hby own_d_jdk_38_method_25_code_12) rfl rfl rfl ?_
  have f5 := (Dl0.other W2 (Or.inr (slot_ne (Or.inl (hw _ (List.mem_of_getElem? (i := 60) rfl))) (Or.inl (hw _ (List.mem_of_getElem? (i := 57) rfl))) (by decide) (t := (.array (.object "java/lang/Object"))) (t' := .int) (by decide) (by decide))))
  refine own_getF X2 hx hZ hown (host := "") (Or.inl (hw _ (List.mem_of_getElem? (i := 59) rfl))) Via.refl e2 f5 (hb hby own_d_jdk_38_method_25_code_13) rfl ?_
  intro T6 X6 e6
  refine own_aloadN X6 hx (hb hby own_d_jdk_38_method_25_code_16) rfl rfl rfl ?_
  have f7 := (Sl0.other W2 (Or.inr (slot_ne (Or.inl (hw _ (List.mem_of_getElem? (i := 125) rfl))) (Or.inl (hw _ (List.mem_of_getElem? (i := 57) rfl))) (by decide) (t := .int) (t' := .int) (by decide) (by decide))))
  refine own_getF X6 hx hZ hown (host := "") (Or.inl (hw _ (List.mem_of_getElem? (i := 135) rfl))) Via.refl e6 f7 (hb hby own_d_jdk_38_method_25_code_17) rfl ?_
  intro T8 X8 e8
  have f9 := (O0.wr W2 g_a1)
  have f10 := (El0.wr W2)
  have f11 := (I0.wr W2)
  refine own_private X8 hx hZ (y := (⟨"java/util/ArrayList", "add", "(Ljava/lang/Object;[Ljava/lang/Object;I)V"⟩ : MethodName)) hown (hw _ (List.mem_of_getElem? (i := 167) rfl)) (own_nf (z := (⟨"java/util/ArrayList", "iterator", "()Ljava/util/Iterator;"⟩ : MethodName)) hZ (hw _ (List.mem_of_getElem? (i := 91) rfl))) (hw _ (List.mem_of_getElem? (i := 168) rfl)) (hw _ (List.mem_of_getElem? (i := 169) rfl)) (hw _ (List.mem_of_getElem? (i := 39) rfl)) (hw _ (List.mem_of_getElem? (i := 171) rfl)) (by decide) e8 (by decide) (W := 0) (by decide) (by decide) (by decide) [(.ref el1), (.ref de), (.int (0 : Int32))] [] (by rw [hml]; rfl) f10 (own_add3E l Z a0 hw a1 el1 de kd (mc + (1 : Int32)) h2 n0 f9 g_a1 SD VD ⟨f10, f4, f5, f7⟩ f11) own_pd4 rfl rfl rfl (hb hby own_d_jdk_38_method_25_code_20) rfl ?_
  intro v12 T12 L12 X12 hQ12
  obtain ⟨rfl, Nq12, Kq12, b12, k12, g_b12, sz_b12, Al12, V12, Ov12⟩ := hQ12
  have sz_b12 := Nat.le_trans K3.1 sz_b12
  have N12 := Fr.app N2 Nq12
  have K13 := K3.trans Kq12 (allS (Or.inl (List.mem_of_getElem? (i := 0) rfl)) all0)
  obtain ⟨El12, Ml12, Dl12, Sl12⟩ := Al12
  show own_Ends p e below _ (T12.setTop (mkF m 23 #[.val (.ref a1), .val (.ref el1)] []))
  refine own_iconst X12 hx (1 : Int32) (hb hby own_d_jdk_38_method_25_code_23) (by decide) rfl ?_
  exact own_retN X12 hx hlocks hret (by simp) (hb hby own_d_jdk_38_method_25_code_24) (by decide) (by decide) (by decide) ⟨rfl, N12, by exact ⟨K13, b12, _, g_b12, sz_b12, ⟨El12, Ml12, Dl12, Sl12⟩, V12, Ov12⟩⟩
set_option maxRecDepth 65536 in
set_option maxHeartbeats 40000000 in
theorem own_add3_1 (l : Launch) (Z : State) (a0 : Array Value) (hw : ∀ d ∈ tables_1, d.before a0 Z = true) (a1 el1 ed x0_ : Addr) (ke : ClassId) (mc : Int32) (h0 : Heap) (n0 : Nat) (g_a1 : n0 ≤ a1) (g_ed : n0 ≤ ed) (L0 : own_AL Z h0 a1 ed mc 1) (V0 : Arv Z h0 ed ke (.object "java/lang/Object") (10 : Int32) [(.ref x0_), .null, .null, .null, .null, .null, .null, .null, .null, .null] .null) (Ov0 : Ovr Z ke "java/lang/Object") (I0 : Ins Z h0 el1 "java/lang/Object" true) :
    own_Met l (⟨"java/util/ArrayList", "add", "(Ljava/lang/Object;[Ljava/lang/Object;I)V"⟩ : MethodName) jdk_38_method_24_code 4 none ({ frames := 0, cells := 0, slots := 0, locals := 0 } : Room) Z #[(.ref a1), (.ref el1), (.ref ed), (.int (1 : Int32))] h0 (fun v h L => v = none ∧ Fr n0 L ∧ Keep h0 h [a1, ed] ∧ own_AL Z h a1 ed mc 2 ∧ Arv Z h ed ke (.object "java/lang/Object") (10 : Int32) [(.ref x0_), (.ref el1), .null, .null, .null, .null, .null, .null, .null, .null] .null) := by
  refine own_met (plainFor_of_name own_pn_java_util_ArrayList) ?_
  intro p e s m below meth c T0 hx hby hml hZ hown hnm hret hlocks X0 e0 hh0
  have ef : entryFrame m #[(.ref a1), (.ref el1), (.ref ed), (.int (1 : Int32))] 4 = mkF m 0 #[.val (.ref a1), .val (.ref el1), .val (.ref ed), .val (.int (1 : Int32))] [] := by first | (simp [entryFrame, mkF, argsToLocals, Value.category]; done) | rfl
  refine own_entry ef ?_
  have N0 := Fr.nil n0
  have K0 := Keep.refl h0 [a1, ed]
  obtain ⟨El0, Ml0, Dl0, Sl0⟩ := L0
  refine own_iloadN X0 hx (hb hby own_d_jdk_38_method_24_code_0) rfl rfl ?_
  refine own_aloadN X0 hx (hb hby own_d_jdk_38_method_24_code_1) rfl rfl rfl ?_
  refine own_arraylength X0 hx hZ e0 V0 (hb hby own_d_jdk_38_method_24_code_2) rfl ?_
  refine own_icmpT X0 hx (hb hby own_d_jdk_38_method_24_code_3) (by decide) rfl (by decide) ?_
  refine own_aloadN X0 hx (hb hby own_d_jdk_38_method_24_code_11) rfl rfl rfl ?_
  refine own_iloadN X0 hx (hb hby own_d_jdk_38_method_24_code_12) rfl rfl ?_
  refine own_aloadN X0 hx (hb hby own_d_jdk_38_method_24_code_13) rfl rfl rfl ?_
  refine own_stR X0 hx hZ e0 V0 rfl rfl (own_sto V0 Ov0 I0) ⟨by decide, by decide⟩ 1 rfl (Nat.le_of_ble_eq_true rfl) N0 g_ed (hb hby own_d_jdk_38_method_24_code_14) rfl ?_
  intro T1 h1 X1 e1 W1 N1 V1
  have K2 := K0.wr W1 (Or.inl (List.mem_of_getElem? (i := 1) rfl))
  refine own_aloadN X1 hx (hb hby own_d_jdk_38_method_24_code_15) rfl rfl rfl ?_
  refine own_iloadN X1 hx (hb hby own_d_jdk_38_method_24_code_16) rfl rfl ?_
  refine own_iconst X1 hx (1 : Int32) (hb hby own_d_jdk_38_method_24_code_17) (by decide) rfl ?_
  refine own_iadd X1 hx (hb hby own_d_jdk_38_method_24_code_18) rfl ?_
  rw [show ((1 : Int32) + (1 : Int32)) = (2 : Int32) from by decide]
  have f3 := (Sl0.other W1 (Or.inl (Exa.neArv El0 V0 (hw _ (List.mem_of_getElem? (i := 38) rfl)))))
  have f4 := (El0.wr W1)
  refine own_putF X1 hx hZ hown (host := "") (Or.inl (hw _ (List.mem_of_getElem? (i := 135) rfl))) Via.refl e1 f3 f4 (Or.inl (hw _ (List.mem_of_getElem? (i := 125) rfl))) (hw _ (List.mem_of_getElem? (i := 38) rfl)) (ty := .int) (by decide) rfl rfl N1 g_a1 (hb hby own_d_jdk_38_method_24_code_19) rfl ?_
  intro T5 h5 X5 e5 W5 N5
  have K6 := K2.wr W5 (Or.inl (List.mem_of_getElem? (i := 0) rfl))
  have f7 := f3.same W5
  have f8 := (f4.wr W5)
  have f9 := ((Ml0.other W1 (Or.inl (Exa.neArv El0 V0 (hw _ (List.mem_of_getElem? (i := 38) rfl))))).other W5 (Or.inr (slot_ne (Or.inl (hw _ (List.mem_of_getElem? (i := 57) rfl))) (Or.inl (hw _ (List.mem_of_getElem? (i := 125) rfl))) (by decide) (t := .int) (t' := .int) (by decide) (by decide))))
  have f10 := ((Dl0.other W1 (Or.inl (Exa.neArv El0 V0 (hw _ (List.mem_of_getElem? (i := 38) rfl))))).other W5 (Or.inr (slot_ne (Or.inl (hw _ (List.mem_of_getElem? (i := 60) rfl))) (Or.inl (hw _ (List.mem_of_getElem? (i := 125) rfl))) (by decide) (t := (.array (.object "java/lang/Object"))) (t' := .int) (by decide) (by decide))))
  have f11 := (V1.other W5 (Ne.symm (Exa.neArv El0 V0 (hw _ (List.mem_of_getElem? (i := 38) rfl)))))
  exact own_ret X5 hx hlocks hret (hb hby own_d_jdk_38_method_24_code_22) (by decide) (by decide) ⟨rfl, N5, by rw [e5]; exact ⟨K6, ⟨f8, f9, f10, f7⟩, f11⟩⟩
set_option maxRecDepth 65536 in
set_option maxHeartbeats 40000000 in
theorem own_add_1 (l : Launch) (Z : State) (a0 : Array Value) (hw : ∀ d ∈ tables_1, d.before a0 Z = true) (a1 el1 ed x0_ : Addr) (ke : ClassId) (mc : Int32) (h0 : Heap) (n0 : Nat) (g_a1 : n0 ≤ a1) (g_ed : n0 ≤ ed) (L0 : own_AL Z h0 a1 ed mc 1) (V0 : Arv Z h0 ed ke (.object "java/lang/Object") (10 : Int32) [(.ref x0_), .null, .null, .null, .null, .null, .null, .null, .null, .null] .null) (Ov0 : Ovr Z ke "java/lang/Object") (I0 : Ins Z h0 el1 "java/lang/Object" true) :
    own_Met l (⟨"java/util/ArrayList", "add", "(Ljava/lang/Object;)Z"⟩ : MethodName) jdk_38_method_25_code 2 (some .boolean) ({ frames := 1, cells := 0, slots := 0, locals := 15 } : Room) Z #[(.ref a1), (.ref el1)] h0 (fun v h L => v = some (.int 1) ∧ Fr n0 L ∧ Keep h0 h [a1, ed] ∧ own_AL Z h a1 ed (mc + (1 : Int32)) 2 ∧ Arv Z h ed ke (.object "java/lang/Object") (10 : Int32) [(.ref x0_), (.ref el1), .null, .null, .null, .null, .null, .null, .null, .null] .null) := by
  refine own_met (plainFor_of_name own_pn_java_util_ArrayList) ?_
  intro p e s m below meth c T0 hx hby hml hZ hown hnm hret hlocks X0 e0 hh0
  have ef : entryFrame m #[(.ref a1), (.ref el1)] 2 = mkF m 0 #[.val (.ref a1), .val (.ref el1)] [] := by first | (simp [entryFrame, mkF, argsToLocals, Value.category]; done) | rfl
  refine own_entry ef ?_
  have N0 := Fr.nil n0
  have K0 := Keep.refl h0 [a1, ed]
  obtain ⟨El0, Ml0, Dl0, Sl0⟩ := L0
  refine own_aloadN X0 hx (hb hby own_d_jdk_38_method_25_code_0) rfl rfl rfl ?_
  refine own_dup X0 hx (hb hby own_d_jdk_38_method_25_code_1) rfl rfl ?_
  refine own_getF X0 hx hZ hown (host := "") (Or.inl (hw _ (List.mem_of_getElem? (i := 134) rfl))) (Via.of (hw _ (List.mem_of_getElem? (i := 110) rfl))) e0 Ml0 (hb hby own_d_jdk_38_method_25_code_2) rfl ?_
  intro T1 X1 e1
  refine own_iconst X1 hx (1 : Int32) (hb hby own_d_jdk_38_method_25_code_5) (by decide) rfl ?_
  refine own_iadd X1 hx (hb hby own_d_jdk_38_method_25_code_6) rfl ?_
  refine own_putF X1 hx hZ hown (host := "") (Or.inl (hw _ (List.mem_of_getElem? (i := 134) rfl))) (Via.of (hw _ (List.mem_of_getElem? (i := 110) rfl))) e1 Ml0 El0 (Or.inl (hw _ (List.mem_of_getElem? (i := 57) rfl))) (hw _ (List.mem_of_getElem? (i := 38) rfl)) (ty := .int) (by decide) rfl rfl N0 g_a1 (hb hby own_d_jdk_38_method_25_code_7) rfl ?_
  intro T2 h2 X2 e2 W2 N2
  have K3 := K0.wr W2 (Or.inl (List.mem_of_getElem? (i := 0) rfl))
  have f4 := Ml0.same W2
  refine own_aloadN X2 hx (hb hby own_d_jdk_38_method_25_code_10) rfl rfl rfl ?_
  refine own_aloadN X2 hx (hb hby own_d_jdk_38_method_25_code_11) rfl rfl rfl ?_
  refine own_aloadN X2 hx (hb hby own_d_jdk_38_method_25_code_12) rfl rfl rfl ?_
  have f5 := (Dl0.other W2 (Or.inr (slot_ne (Or.inl (hw _ (List.mem_of_getElem? (i := 60) rfl))) (Or.inl (hw _ (List.mem_of_getElem? (i := 57) rfl))) (by decide) (t := (.array (.object "java/lang/Object"))) (t' := .int) (by decide) (by decide))))
  refine own_getF X2 hx hZ hown (host := "") (Or.inl (hw _ (List.mem_of_getElem? (i := 59) rfl))) Via.refl e2 f5 (hb hby own_d_jdk_38_method_25_code_13) rfl ?_
  intro T6 X6 e6
  refine own_aloadN X6 hx (hb hby own_d_jdk_38_method_25_code_16) rfl rfl rfl ?_
  have f7 := (Sl0.other W2 (Or.inr (slot_ne (Or.inl (hw _ (List.mem_of_getElem? (i := 125) rfl))) (Or.inl (hw _ (List.mem_of_getElem? (i := 57) rfl))) (by decide) (t := .int) (t' := .int) (by decide) (by decide))))
  refine own_getF X6 hx hZ hown (host := "") (Or.inl (hw _ (List.mem_of_getElem? (i := 135) rfl))) Via.refl e6 f7 (hb hby own_d_jdk_38_method_25_code_17) rfl ?_
  intro T8 X8 e8
  have f9 := (El0.wr W2)
  have f10 := (V0.other W2 (Ne.symm (Exa.neArv El0 V0 (hw _ (List.mem_of_getElem? (i := 38) rfl)))))
  have f11 := (I0.wr W2)
  refine own_private X8 hx hZ (y := (⟨"java/util/ArrayList", "add", "(Ljava/lang/Object;[Ljava/lang/Object;I)V"⟩ : MethodName)) hown (hw _ (List.mem_of_getElem? (i := 167) rfl)) (own_nf (z := (⟨"java/util/ArrayList", "iterator", "()Ljava/util/Iterator;"⟩ : MethodName)) hZ (hw _ (List.mem_of_getElem? (i := 91) rfl))) (hw _ (List.mem_of_getElem? (i := 168) rfl)) (hw _ (List.mem_of_getElem? (i := 169) rfl)) (hw _ (List.mem_of_getElem? (i := 39) rfl)) (hw _ (List.mem_of_getElem? (i := 171) rfl)) (by decide) e8 (by decide) (W := 0) (by decide) (by decide) (by decide) [(.ref el1), (.ref ed), (.int (1 : Int32))] [] (by rw [hml]; rfl) f9 (own_add3_1 l Z a0 hw a1 el1 ed x0_ ke (mc + (1 : Int32)) h2 n0 g_a1 g_ed ⟨f9, f4, f5, f7⟩ f10 Ov0 f11) own_pd4 rfl rfl rfl (hb hby own_d_jdk_38_method_25_code_20) rfl ?_
  intro v12 T12 L12 X12 hQ12
  obtain ⟨rfl, Nq12, Kq12, Al12, V12⟩ := hQ12
  have N12 := Fr.app N2 Nq12
  have K13 := K3.trans Kq12 (allS (Or.inl (List.mem_of_getElem? (i := 0) rfl)) (allS (Or.inl (List.mem_of_getElem? (i := 1) rfl)) all0))
  obtain ⟨El12, Ml12, Dl12, Sl12⟩ := Al12
  show own_Ends p e below _ (T12.setTop (mkF m 23 #[.val (.ref a1), .val (.ref el1)] []))
  refine own_iconst X12 hx (1 : Int32) (hb hby own_d_jdk_38_method_25_code_23) (by decide) rfl ?_
  exact own_retN X12 hx hlocks hret (by simp) (hb hby own_d_jdk_38_method_25_code_24) (by decide) (by decide) (by decide) ⟨rfl, N12, by exact ⟨K13, ⟨El12, Ml12, Dl12, Sl12⟩, V12⟩⟩
set_option maxRecDepth 65536 in
set_option maxHeartbeats 40000000 in
theorem own_add3_2 (l : Launch) (Z : State) (a0 : Array Value) (hw : ∀ d ∈ tables_1, d.before a0 Z = true) (a1 el1 ed x0_ x1_ : Addr) (ke : ClassId) (mc : Int32) (h0 : Heap) (n0 : Nat) (g_a1 : n0 ≤ a1) (g_ed : n0 ≤ ed) (L0 : own_AL Z h0 a1 ed mc 2) (V0 : Arv Z h0 ed ke (.object "java/lang/Object") (10 : Int32) [(.ref x0_), (.ref x1_), .null, .null, .null, .null, .null, .null, .null, .null] .null) (Ov0 : Ovr Z ke "java/lang/Object") (I0 : Ins Z h0 el1 "java/lang/Object" true) :
    own_Met l (⟨"java/util/ArrayList", "add", "(Ljava/lang/Object;[Ljava/lang/Object;I)V"⟩ : MethodName) jdk_38_method_24_code 4 none ({ frames := 0, cells := 0, slots := 0, locals := 0 } : Room) Z #[(.ref a1), (.ref el1), (.ref ed), (.int (2 : Int32))] h0 (fun v h L => v = none ∧ Fr n0 L ∧ Keep h0 h [a1, ed] ∧ own_AL Z h a1 ed mc 3 ∧ Arv Z h ed ke (.object "java/lang/Object") (10 : Int32) [(.ref x0_), (.ref x1_), (.ref el1), .null, .null, .null, .null, .null, .null, .null] .null) := by
  refine own_met (plainFor_of_name own_pn_java_util_ArrayList) ?_
  intro p e s m below meth c T0 hx hby hml hZ hown hnm hret hlocks X0 e0 hh0
  have ef : entryFrame m #[(.ref a1), (.ref el1), (.ref ed), (.int (2 : Int32))] 4 = mkF m 0 #[.val (.ref a1), .val (.ref el1), .val (.ref ed), .val (.int (2 : Int32))] [] := by first | (simp [entryFrame, mkF, argsToLocals, Value.category]; done) | rfl
  refine own_entry ef ?_
  have N0 := Fr.nil n0
  have K0 := Keep.refl h0 [a1, ed]
  obtain ⟨El0, Ml0, Dl0, Sl0⟩ := L0
  refine own_iloadN X0 hx (hb hby own_d_jdk_38_method_24_code_0) rfl rfl ?_
  refine own_aloadN X0 hx (hb hby own_d_jdk_38_method_24_code_1) rfl rfl rfl ?_
  refine own_arraylength X0 hx hZ e0 V0 (hb hby own_d_jdk_38_method_24_code_2) rfl ?_
  refine own_icmpT X0 hx (hb hby own_d_jdk_38_method_24_code_3) (by decide) rfl (by decide) ?_
  refine own_aloadN X0 hx (hb hby own_d_jdk_38_method_24_code_11) rfl rfl rfl ?_
  refine own_iloadN X0 hx (hb hby own_d_jdk_38_method_24_code_12) rfl rfl ?_
  refine own_aloadN X0 hx (hb hby own_d_jdk_38_method_24_code_13) rfl rfl rfl ?_
  refine own_stR X0 hx hZ e0 V0 rfl rfl (own_sto V0 Ov0 I0) ⟨by decide, by decide⟩ 2 rfl (Nat.le_of_ble_eq_true rfl) N0 g_ed (hb hby own_d_jdk_38_method_24_code_14) rfl ?_
  intro T1 h1 X1 e1 W1 N1 V1
  have K2 := K0.wr W1 (Or.inl (List.mem_of_getElem? (i := 1) rfl))
  refine own_aloadN X1 hx (hb hby own_d_jdk_38_method_24_code_15) rfl rfl rfl ?_
  refine own_iloadN X1 hx (hb hby own_d_jdk_38_method_24_code_16) rfl rfl ?_
  refine own_iconst X1 hx (1 : Int32) (hb hby own_d_jdk_38_method_24_code_17) (by decide) rfl ?_
  refine own_iadd X1 hx (hb hby own_d_jdk_38_method_24_code_18) rfl ?_
  rw [show ((2 : Int32) + (1 : Int32)) = (3 : Int32) from by decide]
  have f3 := (Sl0.other W1 (Or.inl (Exa.neArv El0 V0 (hw _ (List.mem_of_getElem? (i := 38) rfl)))))
  have f4 := (El0.wr W1)
  refine own_putF X1 hx hZ hown (host := "") (Or.inl (hw _ (List.mem_of_getElem? (i := 135) rfl))) Via.refl e1 f3 f4 (Or.inl (hw _ (List.mem_of_getElem? (i := 125) rfl))) (hw _ (List.mem_of_getElem? (i := 38) rfl)) (ty := .int) (by decide) rfl rfl N1 g_a1 (hb hby own_d_jdk_38_method_24_code_19) rfl ?_
  intro T5 h5 X5 e5 W5 N5
  have K6 := K2.wr W5 (Or.inl (List.mem_of_getElem? (i := 0) rfl))
  have f7 := f3.same W5
  have f8 := (f4.wr W5)
  have f9 := ((Ml0.other W1 (Or.inl (Exa.neArv El0 V0 (hw _ (List.mem_of_getElem? (i := 38) rfl))))).other W5 (Or.inr (slot_ne (Or.inl (hw _ (List.mem_of_getElem? (i := 57) rfl))) (Or.inl (hw _ (List.mem_of_getElem? (i := 125) rfl))) (by decide) (t := .int) (t' := .int) (by decide) (by decide))))
  have f10 := ((Dl0.other W1 (Or.inl (Exa.neArv El0 V0 (hw _ (List.mem_of_getElem? (i := 38) rfl))))).other W5 (Or.inr (slot_ne (Or.inl (hw _ (List.mem_of_getElem? (i := 60) rfl))) (Or.inl (hw _ (List.mem_of_getElem? (i := 125) rfl))) (by decide) (t := (.array (.object "java/lang/Object"))) (t' := .int) (by decide) (by decide))))
  have f11 := (V1.other W5 (Ne.symm (Exa.neArv El0 V0 (hw _ (List.mem_of_getElem? (i := 38) rfl)))))
  exact own_ret X5 hx hlocks hret (hb hby own_d_jdk_38_method_24_code_22) (by decide) (by decide) ⟨rfl, N5, by rw [e5]; exact ⟨K6, ⟨f8, f9, f10, f7⟩, f11⟩⟩
set_option maxRecDepth 65536 in
set_option maxHeartbeats 40000000 in
theorem own_add_2 (l : Launch) (Z : State) (a0 : Array Value) (hw : ∀ d ∈ tables_1, d.before a0 Z = true) (a1 el1 ed x0_ x1_ : Addr) (ke : ClassId) (mc : Int32) (h0 : Heap) (n0 : Nat) (g_a1 : n0 ≤ a1) (g_ed : n0 ≤ ed) (L0 : own_AL Z h0 a1 ed mc 2) (V0 : Arv Z h0 ed ke (.object "java/lang/Object") (10 : Int32) [(.ref x0_), (.ref x1_), .null, .null, .null, .null, .null, .null, .null, .null] .null) (Ov0 : Ovr Z ke "java/lang/Object") (I0 : Ins Z h0 el1 "java/lang/Object" true) :
    own_Met l (⟨"java/util/ArrayList", "add", "(Ljava/lang/Object;)Z"⟩ : MethodName) jdk_38_method_25_code 2 (some .boolean) ({ frames := 1, cells := 0, slots := 0, locals := 15 } : Room) Z #[(.ref a1), (.ref el1)] h0 (fun v h L => v = some (.int 1) ∧ Fr n0 L ∧ Keep h0 h [a1, ed] ∧ own_AL Z h a1 ed (mc + (1 : Int32)) 3 ∧ Arv Z h ed ke (.object "java/lang/Object") (10 : Int32) [(.ref x0_), (.ref x1_), (.ref el1), .null, .null, .null, .null, .null, .null, .null] .null) := by
  refine own_met (plainFor_of_name own_pn_java_util_ArrayList) ?_
  intro p e s m below meth c T0 hx hby hml hZ hown hnm hret hlocks X0 e0 hh0
  have ef : entryFrame m #[(.ref a1), (.ref el1)] 2 = mkF m 0 #[.val (.ref a1), .val (.ref el1)] [] := by first | (simp [entryFrame, mkF, argsToLocals, Value.category]; done) | rfl
  refine own_entry ef ?_
  have N0 := Fr.nil n0
  have K0 := Keep.refl h0 [a1, ed]
  obtain ⟨El0, Ml0, Dl0, Sl0⟩ := L0
  refine own_aloadN X0 hx (hb hby own_d_jdk_38_method_25_code_0) rfl rfl rfl ?_
  refine own_dup X0 hx (hb hby own_d_jdk_38_method_25_code_1) rfl rfl ?_
  refine own_getF X0 hx hZ hown (host := "") (Or.inl (hw _ (List.mem_of_getElem? (i := 134) rfl))) (Via.of (hw _ (List.mem_of_getElem? (i := 110) rfl))) e0 Ml0 (hb hby own_d_jdk_38_method_25_code_2) rfl ?_
  intro T1 X1 e1
  refine own_iconst X1 hx (1 : Int32) (hb hby own_d_jdk_38_method_25_code_5) (by decide) rfl ?_
  refine own_iadd X1 hx (hb hby own_d_jdk_38_method_25_code_6) rfl ?_
  refine own_putF X1 hx hZ hown (host := "") (Or.inl (hw _ (List.mem_of_getElem? (i := 134) rfl))) (Via.of (hw _ (List.mem_of_getElem? (i := 110) rfl))) e1 Ml0 El0 (Or.inl (hw _ (List.mem_of_getElem? (i := 57) rfl))) (hw _ (List.mem_of_getElem? (i := 38) rfl)) (ty := .int) (by decide) rfl rfl N0 g_a1 (hb hby own_d_jdk_38_method_25_code_7) rfl ?_
  intro T2 h2 X2 e2 W2 N2
  have K3 := K0.wr W2 (Or.inl (List.mem_of_getElem? (i := 0) rfl))
  have f4 := Ml0.same W2
  refine own_aloadN X2 hx (hb hby own_d_jdk_38_method_25_code_10) rfl rfl rfl ?_
  refine own_aloadN X2 hx (hb hby own_d_jdk_38_method_25_code_11) rfl rfl rfl ?_
  refine own_aloadN X2 hx (hb hby own_d_jdk_38_method_25_code_12) rfl rfl rfl ?_
  have f5 := (Dl0.other W2 (Or.inr (slot_ne (Or.inl (hw _ (List.mem_of_getElem? (i := 60) rfl))) (Or.inl (hw _ (List.mem_of_getElem? (i := 57) rfl))) (by decide) (t := (.array (.object "java/lang/Object"))) (t' := .int) (by decide) (by decide))))
  refine own_getF X2 hx hZ hown (host := "") (Or.inl (hw _ (List.mem_of_getElem? (i := 59) rfl))) Via.refl e2 f5 (hb hby own_d_jdk_38_method_25_code_13) rfl ?_
  intro T6 X6 e6
  refine own_aloadN X6 hx (hb hby own_d_jdk_38_method_25_code_16) rfl rfl rfl ?_
  have f7 := (Sl0.other W2 (Or.inr (slot_ne (Or.inl (hw _ (List.mem_of_getElem? (i := 125) rfl))) (Or.inl (hw _ (List.mem_of_getElem? (i := 57) rfl))) (by decide) (t := .int) (t' := .int) (by decide) (by decide))))
  refine own_getF X6 hx hZ hown (host := "") (Or.inl (hw _ (List.mem_of_getElem? (i := 135) rfl))) Via.refl e6 f7 (hb hby own_d_jdk_38_method_25_code_17) rfl ?_
  intro T8 X8 e8
  have f9 := (El0.wr W2)
  have f10 := (V0.other W2 (Ne.symm (Exa.neArv El0 V0 (hw _ (List.mem_of_getElem? (i := 38) rfl)))))
  have f11 := (I0.wr W2)
  refine own_private X8 hx hZ (y := (⟨"java/util/ArrayList", "add", "(Ljava/lang/Object;[Ljava/lang/Object;I)V"⟩ : MethodName)) hown (hw _ (List.mem_of_getElem? (i := 167) rfl)) (own_nf (z := (⟨"java/util/ArrayList", "iterator", "()Ljava/util/Iterator;"⟩ : MethodName)) hZ (hw _ (List.mem_of_getElem? (i := 91) rfl))) (hw _ (List.mem_of_getElem? (i := 168) rfl)) (hw _ (List.mem_of_getElem? (i := 169) rfl)) (hw _ (List.mem_of_getElem? (i := 39) rfl)) (hw _ (List.mem_of_getElem? (i := 171) rfl)) (by decide) e8 (by decide) (W := 0) (by decide) (by decide) (by decide) [(.ref el1), (.ref ed), (.int (2 : Int32))] [] (by rw [hml]; rfl) f9 (own_add3_2 l Z a0 hw a1 el1 ed x0_ x1_ ke (mc + (1 : Int32)) h2 n0 g_a1 g_ed ⟨f9, f4, f5, f7⟩ f10 Ov0 f11) own_pd4 rfl rfl rfl (hb hby own_d_jdk_38_method_25_code_20) rfl ?_
  intro v12 T12 L12 X12 hQ12
  obtain ⟨rfl, Nq12, Kq12, Al12, V12⟩ := hQ12
  have N12 := Fr.app N2 Nq12
  have K13 := K3.trans Kq12 (allS (Or.inl (List.mem_of_getElem? (i := 0) rfl)) (allS (Or.inl (List.mem_of_getElem? (i := 1) rfl)) all0))
  obtain ⟨El12, Ml12, Dl12, Sl12⟩ := Al12
  show own_Ends p e below _ (T12.setTop (mkF m 23 #[.val (.ref a1), .val (.ref el1)] []))
  refine own_iconst X12 hx (1 : Int32) (hb hby own_d_jdk_38_method_25_code_23) (by decide) rfl ?_
  exact own_retN X12 hx hlocks hret (by simp) (hb hby own_d_jdk_38_method_25_code_24) (by decide) (by decide) (by decide) ⟨rfl, N12, by exact ⟨K13, ⟨El12, Ml12, Dl12, Sl12⟩, V12⟩⟩
set_option maxRecDepth 65536 in
set_option maxHeartbeats 40000000 in
theorem own_clear_0 (l : Launch) (Z : State) (a0 : Array Value) (hw : ∀ d ∈ tables_1, d.before a0 Z = true) (a1 de : Addr) (kd : ClassId) (mc : Int32) (h0 : Heap) (n0 : Nat) (g_a1 : n0 ≤ a1) (L0 : own_AL Z h0 a1 de mc 0) :
    own_Met l (⟨"java/util/ArrayList", "clear", "()V"⟩ : MethodName) jdk_38_method_40_code 4 none ({ frames := 0, cells := 0, slots := 0, locals := 0 } : Room) Z #[(.ref a1)] h0 (fun v h L => v = none ∧ Fr n0 L ∧ Keep h0 h [a1] ∧ own_AL Z h a1 de (mc + (1 : Int32)) 0) := by
  refine own_met (plainFor_of_name own_pn_java_util_ArrayList) ?_
  intro p e s m below meth c T0 hx hby hml hZ hown hnm hret hlocks X0 e0 hh0
  have ef : entryFrame m #[(.ref a1)] 4 = mkF m 0 #[.val (.ref a1), .unset, .unset, .unset] [] := by first | (simp [entryFrame, mkF, argsToLocals, Value.category]; done) | rfl
  refine own_entry ef ?_
  have N0 := Fr.nil n0
  have K0 := Keep.refl h0 [a1]
  obtain ⟨El0, Ml0, Dl0, Sl0⟩ := L0
  refine own_aloadN X0 hx (hb hby own_d_jdk_38_method_40_code_0) rfl rfl rfl ?_
  refine own_dup X0 hx (hb hby own_d_jdk_38_method_40_code_1) rfl rfl ?_
  refine own_getF X0 hx hZ hown (host := "") (Or.inl (hw _ (List.mem_of_getElem? (i := 134) rfl))) (Via.of (hw _ (List.mem_of_getElem? (i := 110) rfl))) e0 Ml0 (hb hby own_d_jdk_38_method_40_code_2) rfl ?_
  intro T1 X1 e1
  refine own_iconst X1 hx (1 : Int32) (hb hby own_d_jdk_38_method_40_code_5) (by decide) rfl ?_
  refine own_iadd X1 hx (hb hby own_d_jdk_38_method_40_code_6) rfl ?_
  refine own_putF X1 hx hZ hown (host := "") (Or.inl (hw _ (List.mem_of_getElem? (i := 134) rfl))) (Via.of (hw _ (List.mem_of_getElem? (i := 110) rfl))) e1 Ml0 El0 (Or.inl (hw _ (List.mem_of_getElem? (i := 57) rfl))) (hw _ (List.mem_of_getElem? (i := 38) rfl)) (ty := .int) (by decide) rfl rfl N0 g_a1 (hb hby own_d_jdk_38_method_40_code_7) rfl ?_
  intro T2 h2 X2 e2 W2 N2
  have K3 := K0.wr W2 (Or.inl (List.mem_of_getElem? (i := 0) rfl))
  have f4 := Ml0.same W2
  refine own_aloadN X2 hx (hb hby own_d_jdk_38_method_40_code_10) rfl rfl rfl ?_
  have f5 := (Dl0.other W2 (Or.inr (slot_ne (Or.inl (hw _ (List.mem_of_getElem? (i := 60) rfl))) (Or.inl (hw _ (List.mem_of_getElem? (i := 57) rfl))) (by decide) (t := (.array (.object "java/lang/Object"))) (t' := .int) (by decide) (by decide))))
  refine own_getF X2 hx hZ hown (host := "") (Or.inl (hw _ (List.mem_of_getElem? (i := 59) rfl))) Via.refl e2 f5 (hb hby own_d_jdk_38_method_40_code_11) rfl ?_
  intro T6 X6 e6
  refine own_astoreN X6 hx #[.val (.ref a1), .val (.ref de), .unset, .unset] (hb hby own_d_jdk_38_method_40_code_14) rfl rfl rfl ?_
  refine own_aloadN X6 hx (hb hby own_d_jdk_38_method_40_code_15) rfl rfl rfl ?_
  have f7 := (Sl0.other W2 (Or.inr (slot_ne (Or.inl (hw _ (List.mem_of_getElem? (i := 125) rfl))) (Or.inl (hw _ (List.mem_of_getElem? (i := 57) rfl))) (by decide) (t := .int) (t' := .int) (by decide) (by decide))))
  refine own_getF X6 hx hZ hown (host := "") (Or.inl (hw _ (List.mem_of_getElem? (i := 135) rfl))) Via.refl e6 f7 (hb hby own_d_jdk_38_method_40_code_16) rfl ?_
  intro T8 X8 e8
  refine own_istoreN X8 hx #[.val (.ref a1), .val (.ref de), .val (.int (0 : Int32)), .unset] (hb hby own_d_jdk_38_method_40_code_19) rfl rfl ?_
  refine own_aloadN X8 hx (hb hby own_d_jdk_38_method_40_code_20) rfl rfl rfl ?_
  refine own_iconst X8 hx (0 : Int32) (hb hby own_d_jdk_38_method_40_code_21) (by decide) rfl ?_
  refine own_dup_x1 X8 hx (hb hby own_d_jdk_38_method_40_code_22) rfl rfl rfl ?_
  have f9 := (El0.wr W2)
  refine own_putF X8 hx hZ hown (host := "") (Or.inl (hw _ (List.mem_of_getElem? (i := 135) rfl))) Via.refl e8 f7 f9 (Or.inl (hw _ (List.mem_of_getElem? (i := 125) rfl))) (hw _ (List.mem_of_getElem? (i := 38) rfl)) (ty := .int) (by decide) rfl rfl N2 g_a1 (hb hby own_d_jdk_38_method_40_code_23) rfl ?_
  intro T10 h10 X10 e10 W10 N10
  have K11 := K3.wr W10 (Or.inl (List.mem_of_getElem? (i := 0) rfl))
  have f12 := f7.same W10
  refine own_istoreN X10 hx #[.val (.ref a1), .val (.ref de), .val (.int (0 : Int32)), .val (.int (0 : Int32))] (hb hby own_d_jdk_38_method_40_code_26) rfl rfl ?_
  refine own_iloadN X10 hx (hb hby own_d_jdk_38_method_40_code_27) rfl rfl ?_
  refine own_iloadN X10 hx (hb hby own_d_jdk_38_method_40_code_28) rfl rfl ?_
  refine own_icmpT X10 hx (hb hby own_d_jdk_38_method_40_code_29) (by decide) rfl (by decide) ?_
  have f13 := (f9.wr W10)
  have f14 := (f4.other W10 (Or.inr (slot_ne (Or.inl (hw _ (List.mem_of_getElem? (i := 57) rfl))) (Or.inl (hw _ (List.mem_of_getElem? (i := 125) rfl))) (by decide) (t := .int) (t' := .int) (by decide) (by decide))))
  have f15 := (f5.other W10 (Or.inr (slot_ne (Or.inl (hw _ (List.mem_of_getElem? (i := 60) rfl))) (Or.inl (hw _ (List.mem_of_getElem? (i := 125) rfl))) (by decide) (t := (.array (.object "java/lang/Object"))) (t' := .int) (by decide) (by decide))))
  exact own_ret X10 hx hlocks hret (hb hby own_d_jdk_38_method_40_code_42) (by decide) (by decide) ⟨rfl, N10, by rw [e10]; exact ⟨K11, ⟨f13, f14, f15, f12⟩⟩⟩
set_option maxRecDepth 65536 in
set_option maxHeartbeats 40000000 in
theorem own_clear_1 (l : Launch) (Z : State) (a0 : Array Value) (hw : ∀ d ∈ tables_1, d.before a0 Z = true) (a1 ed x0_ : Addr) (ke : ClassId) (mc : Int32) (h0 : Heap) (n0 : Nat) (g_a1 : n0 ≤ a1) (L0 : own_AL Z h0 a1 ed mc 1) (g_ed : n0 ≤ ed) (V0 : Arv Z h0 ed ke (.object "java/lang/Object") (10 : Int32) [(.ref x0_), .null, .null, .null, .null, .null, .null, .null, .null, .null] .null) :
    own_Met l (⟨"java/util/ArrayList", "clear", "()V"⟩ : MethodName) jdk_38_method_40_code 4 none ({ frames := 0, cells := 0, slots := 0, locals := 0 } : Room) Z #[(.ref a1)] h0 (fun v h L => v = none ∧ Fr n0 L ∧ Keep h0 h [a1, ed] ∧ own_AL Z h a1 ed (mc + (1 : Int32)) 0) := by
  refine own_met (plainFor_of_name own_pn_java_util_ArrayList) ?_
  intro p e s m below meth c T0 hx hby hml hZ hown hnm hret hlocks X0 e0 hh0
  have ef : entryFrame m #[(.ref a1)] 4 = mkF m 0 #[.val (.ref a1), .unset, .unset, .unset] [] := by first | (simp [entryFrame, mkF, argsToLocals, Value.category]; done) | rfl
  refine own_entry ef ?_
  have N0 := Fr.nil n0
  have K0 := Keep.refl h0 [a1, ed]
  obtain ⟨El0, Ml0, Dl0, Sl0⟩ := L0
  refine own_aloadN X0 hx (hb hby own_d_jdk_38_method_40_code_0) rfl rfl rfl ?_
  refine own_dup X0 hx (hb hby own_d_jdk_38_method_40_code_1) rfl rfl ?_
  refine own_getF X0 hx hZ hown (host := "") (Or.inl (hw _ (List.mem_of_getElem? (i := 134) rfl))) (Via.of (hw _ (List.mem_of_getElem? (i := 110) rfl))) e0 Ml0 (hb hby own_d_jdk_38_method_40_code_2) rfl ?_
  intro T1 X1 e1
  refine own_iconst X1 hx (1 : Int32) (hb hby own_d_jdk_38_method_40_code_5) (by decide) rfl ?_
  refine own_iadd X1 hx (hb hby own_d_jdk_38_method_40_code_6) rfl ?_
  refine own_putF X1 hx hZ hown (host := "") (Or.inl (hw _ (List.mem_of_getElem? (i := 134) rfl))) (Via.of (hw _ (List.mem_of_getElem? (i := 110) rfl))) e1 Ml0 El0 (Or.inl (hw _ (List.mem_of_getElem? (i := 57) rfl))) (hw _ (List.mem_of_getElem? (i := 38) rfl)) (ty := .int) (by decide) rfl rfl N0 g_a1 (hb hby own_d_jdk_38_method_40_code_7) rfl ?_
  intro T2 h2 X2 e2 W2 N2
  have K3 := K0.wr W2 (Or.inl (List.mem_of_getElem? (i := 0) rfl))
  have f4 := Ml0.same W2
  refine own_aloadN X2 hx (hb hby own_d_jdk_38_method_40_code_10) rfl rfl rfl ?_
  have f5 := (Dl0.other W2 (Or.inr (slot_ne (Or.inl (hw _ (List.mem_of_getElem? (i := 60) rfl))) (Or.inl (hw _ (List.mem_of_getElem? (i := 57) rfl))) (by decide) (t := (.array (.object "java/lang/Object"))) (t' := .int) (by decide) (by decide))))
  refine own_getF X2 hx hZ hown (host := "") (Or.inl (hw _ (List.mem_of_getElem? (i := 59) rfl))) Via.refl e2 f5 (hb hby own_d_jdk_38_method_40_code_11) rfl ?_
  intro T6 X6 e6
  refine own_astoreN X6 hx #[.val (.ref a1), .val (.ref ed), .unset, .unset] (hb hby own_d_jdk_38_method_40_code_14) rfl rfl rfl ?_
  refine own_aloadN X6 hx (hb hby own_d_jdk_38_method_40_code_15) rfl rfl rfl ?_
  have f7 := (Sl0.other W2 (Or.inr (slot_ne (Or.inl (hw _ (List.mem_of_getElem? (i := 125) rfl))) (Or.inl (hw _ (List.mem_of_getElem? (i := 57) rfl))) (by decide) (t := .int) (t' := .int) (by decide) (by decide))))
  refine own_getF X6 hx hZ hown (host := "") (Or.inl (hw _ (List.mem_of_getElem? (i := 135) rfl))) Via.refl e6 f7 (hb hby own_d_jdk_38_method_40_code_16) rfl ?_
  intro T8 X8 e8
  refine own_istoreN X8 hx #[.val (.ref a1), .val (.ref ed), .val (.int (1 : Int32)), .unset] (hb hby own_d_jdk_38_method_40_code_19) rfl rfl ?_
  refine own_aloadN X8 hx (hb hby own_d_jdk_38_method_40_code_20) rfl rfl rfl ?_
  refine own_iconst X8 hx (0 : Int32) (hb hby own_d_jdk_38_method_40_code_21) (by decide) rfl ?_
  refine own_dup_x1 X8 hx (hb hby own_d_jdk_38_method_40_code_22) rfl rfl rfl ?_
  have f9 := (El0.wr W2)
  refine own_putF X8 hx hZ hown (host := "") (Or.inl (hw _ (List.mem_of_getElem? (i := 135) rfl))) Via.refl e8 f7 f9 (Or.inl (hw _ (List.mem_of_getElem? (i := 125) rfl))) (hw _ (List.mem_of_getElem? (i := 38) rfl)) (ty := .int) (by decide) rfl rfl N2 g_a1 (hb hby own_d_jdk_38_method_40_code_23) rfl ?_
  intro T10 h10 X10 e10 W10 N10
  have K11 := K3.wr W10 (Or.inl (List.mem_of_getElem? (i := 0) rfl))
  have f12 := f7.same W10
  refine own_istoreN X10 hx #[.val (.ref a1), .val (.ref ed), .val (.int (1 : Int32)), .val (.int (0 : Int32))] (hb hby own_d_jdk_38_method_40_code_26) rfl rfl ?_
  refine own_iloadN X10 hx (hb hby own_d_jdk_38_method_40_code_27) rfl rfl ?_
  refine own_iloadN X10 hx (hb hby own_d_jdk_38_method_40_code_28) rfl rfl ?_
  refine own_icmpF X10 hx (hb hby own_d_jdk_38_method_40_code_29) rfl (by decide) ?_
  refine own_aloadN X10 hx (hb hby own_d_jdk_38_method_40_code_32) rfl rfl rfl ?_
  refine own_iloadN X10 hx (hb hby own_d_jdk_38_method_40_code_33) rfl rfl ?_
  refine own_aconst_null X10 hx (hb hby own_d_jdk_38_method_40_code_34) rfl ?_
  have f13 := ((V0.other W2 (Ne.symm (Exa.neArv El0 V0 (hw _ (List.mem_of_getElem? (i := 38) rfl))))).other W10 (Ne.symm (Exa.neArv El0 V0 (hw _ (List.mem_of_getElem? (i := 38) rfl)))))
  refine own_stR X10 hx hZ e10 f13 rfl rfl (Or.inl rfl) ⟨by decide, by decide⟩ 0 rfl (Nat.le_of_ble_eq_true rfl) N10 g_ed (hb hby own_d_jdk_38_method_40_code_35) rfl ?_
  intro T14 h14 X14 e14 W14 N14 V14
  have K15 := K11.wr W14 (Or.inl (List.mem_of_getElem? (i := 1) rfl))
  refine own_iinc X14 hx #[.val (.ref a1), .val (.ref ed), .val (.int (1 : Int32)), .val (.int (1 : Int32))] (hb hby own_d_jdk_38_method_40_code_36) rfl rfl rfl ?_
  refine own_goto X14 hx (hb hby own_d_jdk_38_method_40_code_39) (by decide) rfl ?_
  refine own_iloadN X14 hx (hb hby own_d_jdk_38_method_40_code_27) rfl rfl ?_
  refine own_iloadN X14 hx (hb hby own_d_jdk_38_method_40_code_28) rfl rfl ?_
  refine own_icmpT X14 hx (hb hby own_d_jdk_38_method_40_code_29) (by decide) rfl (by decide) ?_
  have f16 := ((f9.wr W10).wr W14)
  have f17 := ((f4.other W10 (Or.inr (slot_ne (Or.inl (hw _ (List.mem_of_getElem? (i := 57) rfl))) (Or.inl (hw _ (List.mem_of_getElem? (i := 125) rfl))) (by decide) (t := .int) (t' := .int) (by decide) (by decide)))).other W14 (Or.inl (Exa.neArv El0 V0 (hw _ (List.mem_of_getElem? (i := 38) rfl)))))
  have f18 := ((f5.other W10 (Or.inr (slot_ne (Or.inl (hw _ (List.mem_of_getElem? (i := 60) rfl))) (Or.inl (hw _ (List.mem_of_getElem? (i := 125) rfl))) (by decide) (t := (.array (.object "java/lang/Object"))) (t' := .int) (by decide) (by decide)))).other W14 (Or.inl (Exa.neArv El0 V0 (hw _ (List.mem_of_getElem? (i := 38) rfl)))))
  have f19 := (f12.other W14 (Or.inl (Exa.neArv El0 V0 (hw _ (List.mem_of_getElem? (i := 38) rfl)))))
  exact own_ret X14 hx hlocks hret (hb hby own_d_jdk_38_method_40_code_42) (by decide) (by decide) ⟨rfl, N14, by rw [e14]; exact ⟨K15, ⟨f16, f17, f18, f19⟩⟩⟩
set_option maxRecDepth 65536 in
set_option maxHeartbeats 40000000 in
theorem own_clear_2 (l : Launch) (Z : State) (a0 : Array Value) (hw : ∀ d ∈ tables_1, d.before a0 Z = true) (a1 ed x0_ x1_ : Addr) (ke : ClassId) (mc : Int32) (h0 : Heap) (n0 : Nat) (g_a1 : n0 ≤ a1) (L0 : own_AL Z h0 a1 ed mc 2) (g_ed : n0 ≤ ed) (V0 : Arv Z h0 ed ke (.object "java/lang/Object") (10 : Int32) [(.ref x0_), (.ref x1_), .null, .null, .null, .null, .null, .null, .null, .null] .null) :
    own_Met l (⟨"java/util/ArrayList", "clear", "()V"⟩ : MethodName) jdk_38_method_40_code 4 none ({ frames := 0, cells := 0, slots := 0, locals := 0 } : Room) Z #[(.ref a1)] h0 (fun v h L => v = none ∧ Fr n0 L ∧ Keep h0 h [a1, ed] ∧ own_AL Z h a1 ed (mc + (1 : Int32)) 0) := by
  refine own_met (plainFor_of_name own_pn_java_util_ArrayList) ?_
  intro p e s m below meth c T0 hx hby hml hZ hown hnm hret hlocks X0 e0 hh0
  have ef : entryFrame m #[(.ref a1)] 4 = mkF m 0 #[.val (.ref a1), .unset, .unset, .unset] [] := by first | (simp [entryFrame, mkF, argsToLocals, Value.category]; done) | rfl
  refine own_entry ef ?_
  have N0 := Fr.nil n0
  have K0 := Keep.refl h0 [a1, ed]
  obtain ⟨El0, Ml0, Dl0, Sl0⟩ := L0
  refine own_aloadN X0 hx (hb hby own_d_jdk_38_method_40_code_0) rfl rfl rfl ?_
  refine own_dup X0 hx (hb hby own_d_jdk_38_method_40_code_1) rfl rfl ?_
  refine own_getF X0 hx hZ hown (host := "") (Or.inl (hw _ (List.mem_of_getElem? (i := 134) rfl))) (Via.of (hw _ (List.mem_of_getElem? (i := 110) rfl))) e0 Ml0 (hb hby own_d_jdk_38_method_40_code_2) rfl ?_
  intro T1 X1 e1
  refine own_iconst X1 hx (1 : Int32) (hb hby own_d_jdk_38_method_40_code_5) (by decide) rfl ?_
  refine own_iadd X1 hx (hb hby own_d_jdk_38_method_40_code_6) rfl ?_
  refine own_putF X1 hx hZ hown (host := "") (Or.inl (hw _ (List.mem_of_getElem? (i := 134) rfl))) (Via.of (hw _ (List.mem_of_getElem? (i := 110) rfl))) e1 Ml0 El0 (Or.inl (hw _ (List.mem_of_getElem? (i := 57) rfl))) (hw _ (List.mem_of_getElem? (i := 38) rfl)) (ty := .int) (by decide) rfl rfl N0 g_a1 (hb hby own_d_jdk_38_method_40_code_7) rfl ?_
  intro T2 h2 X2 e2 W2 N2
  have K3 := K0.wr W2 (Or.inl (List.mem_of_getElem? (i := 0) rfl))
  have f4 := Ml0.same W2
  refine own_aloadN X2 hx (hb hby own_d_jdk_38_method_40_code_10) rfl rfl rfl ?_
  have f5 := (Dl0.other W2 (Or.inr (slot_ne (Or.inl (hw _ (List.mem_of_getElem? (i := 60) rfl))) (Or.inl (hw _ (List.mem_of_getElem? (i := 57) rfl))) (by decide) (t := (.array (.object "java/lang/Object"))) (t' := .int) (by decide) (by decide))))
  refine own_getF X2 hx hZ hown (host := "") (Or.inl (hw _ (List.mem_of_getElem? (i := 59) rfl))) Via.refl e2 f5 (hb hby own_d_jdk_38_method_40_code_11) rfl ?_
  intro T6 X6 e6
  refine own_astoreN X6 hx #[.val (.ref a1), .val (.ref ed), .unset, .unset] (hb hby own_d_jdk_38_method_40_code_14) rfl rfl rfl ?_
  refine own_aloadN X6 hx (hb hby own_d_jdk_38_method_40_code_15) rfl rfl rfl ?_
  have f7 := (Sl0.other W2 (Or.inr (slot_ne (Or.inl (hw _ (List.mem_of_getElem? (i := 125) rfl))) (Or.inl (hw _ (List.mem_of_getElem? (i := 57) rfl))) (by decide) (t := .int) (t' := .int) (by decide) (by decide))))
  refine own_getF X6 hx hZ hown (host := "") (Or.inl (hw _ (List.mem_of_getElem? (i := 135) rfl))) Via.refl e6 f7 (hb hby own_d_jdk_38_method_40_code_16) rfl ?_
  intro T8 X8 e8
  refine own_istoreN X8 hx #[.val (.ref a1), .val (.ref ed), .val (.int (2 : Int32)), .unset] (hb hby own_d_jdk_38_method_40_code_19) rfl rfl ?_
  refine own_aloadN X8 hx (hb hby own_d_jdk_38_method_40_code_20) rfl rfl rfl ?_
  refine own_iconst X8 hx (0 : Int32) (hb hby own_d_jdk_38_method_40_code_21) (by decide) rfl ?_
  refine own_dup_x1 X8 hx (hb hby own_d_jdk_38_method_40_code_22) rfl rfl rfl ?_
  have f9 := (El0.wr W2)
  refine own_putF X8 hx hZ hown (host := "") (Or.inl (hw _ (List.mem_of_getElem? (i := 135) rfl))) Via.refl e8 f7 f9 (Or.inl (hw _ (List.mem_of_getElem? (i := 125) rfl))) (hw _ (List.mem_of_getElem? (i := 38) rfl)) (ty := .int) (by decide) rfl rfl N2 g_a1 (hb hby own_d_jdk_38_method_40_code_23) rfl ?_
  intro T10 h10 X10 e10 W10 N10
  have K11 := K3.wr W10 (Or.inl (List.mem_of_getElem? (i := 0) rfl))
  have f12 := f7.same W10
  refine own_istoreN X10 hx #[.val (.ref a1), .val (.ref ed), .val (.int (2 : Int32)), .val (.int (0 : Int32))] (hb hby own_d_jdk_38_method_40_code_26) rfl rfl ?_
  refine own_iloadN X10 hx (hb hby own_d_jdk_38_method_40_code_27) rfl rfl ?_
  refine own_iloadN X10 hx (hb hby own_d_jdk_38_method_40_code_28) rfl rfl ?_
  refine own_icmpF X10 hx (hb hby own_d_jdk_38_method_40_code_29) rfl (by decide) ?_
  refine own_aloadN X10 hx (hb hby own_d_jdk_38_method_40_code_32) rfl rfl rfl ?_
  refine own_iloadN X10 hx (hb hby own_d_jdk_38_method_40_code_33) rfl rfl ?_
  refine own_aconst_null X10 hx (hb hby own_d_jdk_38_method_40_code_34) rfl ?_
  have f13 := ((V0.other W2 (Ne.symm (Exa.neArv El0 V0 (hw _ (List.mem_of_getElem? (i := 38) rfl))))).other W10 (Ne.symm (Exa.neArv El0 V0 (hw _ (List.mem_of_getElem? (i := 38) rfl)))))
  refine own_stR X10 hx hZ e10 f13 rfl rfl (Or.inl rfl) ⟨by decide, by decide⟩ 0 rfl (Nat.le_of_ble_eq_true rfl) N10 g_ed (hb hby own_d_jdk_38_method_40_code_35) rfl ?_
  intro T14 h14 X14 e14 W14 N14 V14
  have K15 := K11.wr W14 (Or.inl (List.mem_of_getElem? (i := 1) rfl))
  refine own_iinc X14 hx #[.val (.ref a1), .val (.ref ed), .val (.int (2 : Int32)), .val (.int (1 : Int32))] (hb hby own_d_jdk_38_method_40_code_36) rfl rfl rfl ?_
  refine own_goto X14 hx (hb hby own_d_jdk_38_method_40_code_39) (by decide) rfl ?_
  refine own_iloadN X14 hx (hb hby own_d_jdk_38_method_40_code_27) rfl rfl ?_
  refine own_iloadN X14 hx (hb hby own_d_jdk_38_method_40_code_28) rfl rfl ?_
  refine own_icmpF X14 hx (hb hby own_d_jdk_38_method_40_code_29) rfl (by decide) ?_
  refine own_aloadN X14 hx (hb hby own_d_jdk_38_method_40_code_32) rfl rfl rfl ?_
  refine own_iloadN X14 hx (hb hby own_d_jdk_38_method_40_code_33) rfl rfl ?_
  refine own_aconst_null X14 hx (hb hby own_d_jdk_38_method_40_code_34) rfl ?_
  refine own_stR X14 hx hZ e14 V14 rfl rfl (Or.inl rfl) ⟨by decide, by decide⟩ 1 rfl (Nat.le_of_ble_eq_true rfl) N14 g_ed (hb hby own_d_jdk_38_method_40_code_35) rfl ?_
  intro T16 h16 X16 e16 W16 N16 V16
  have K17 := K15.wr W16 (Or.inl (List.mem_of_getElem? (i := 1) rfl))
  refine own_iinc X16 hx #[.val (.ref a1), .val (.ref ed), .val (.int (2 : Int32)), .val (.int (2 : Int32))] (hb hby own_d_jdk_38_method_40_code_36) rfl rfl rfl ?_
  refine own_goto X16 hx (hb hby own_d_jdk_38_method_40_code_39) (by decide) rfl ?_
  refine own_iloadN X16 hx (hb hby own_d_jdk_38_method_40_code_27) rfl rfl ?_
  refine own_iloadN X16 hx (hb hby own_d_jdk_38_method_40_code_28) rfl rfl ?_
  refine own_icmpT X16 hx (hb hby own_d_jdk_38_method_40_code_29) (by decide) rfl (by decide) ?_
  have f18 := (((f9.wr W10).wr W14).wr W16)
  have f19 := (((f4.other W10 (Or.inr (slot_ne (Or.inl (hw _ (List.mem_of_getElem? (i := 57) rfl))) (Or.inl (hw _ (List.mem_of_getElem? (i := 125) rfl))) (by decide) (t := .int) (t' := .int) (by decide) (by decide)))).other W14 (Or.inl (Exa.neArv El0 V0 (hw _ (List.mem_of_getElem? (i := 38) rfl))))).other W16 (Or.inl (Exa.neArv El0 V0 (hw _ (List.mem_of_getElem? (i := 38) rfl)))))
  have f20 := (((f5.other W10 (Or.inr (slot_ne (Or.inl (hw _ (List.mem_of_getElem? (i := 60) rfl))) (Or.inl (hw _ (List.mem_of_getElem? (i := 125) rfl))) (by decide) (t := (.array (.object "java/lang/Object"))) (t' := .int) (by decide) (by decide)))).other W14 (Or.inl (Exa.neArv El0 V0 (hw _ (List.mem_of_getElem? (i := 38) rfl))))).other W16 (Or.inl (Exa.neArv El0 V0 (hw _ (List.mem_of_getElem? (i := 38) rfl)))))
  have f21 := ((f12.other W14 (Or.inl (Exa.neArv El0 V0 (hw _ (List.mem_of_getElem? (i := 38) rfl))))).other W16 (Or.inl (Exa.neArv El0 V0 (hw _ (List.mem_of_getElem? (i := 38) rfl)))))
  exact own_ret X16 hx hlocks hret (hb hby own_d_jdk_38_method_40_code_42) (by decide) (by decide) ⟨rfl, N16, by rw [e16]; exact ⟨K17, ⟨f18, f19, f20, f21⟩⟩⟩
set_option maxRecDepth 65536 in
set_option maxHeartbeats 40000000 in
theorem own_clear_3 (l : Launch) (Z : State) (a0 : Array Value) (hw : ∀ d ∈ tables_1, d.before a0 Z = true) (a1 ed x0_ x1_ x2_ : Addr) (ke : ClassId) (mc : Int32) (h0 : Heap) (n0 : Nat) (g_a1 : n0 ≤ a1) (L0 : own_AL Z h0 a1 ed mc 3) (g_ed : n0 ≤ ed) (V0 : Arv Z h0 ed ke (.object "java/lang/Object") (10 : Int32) [(.ref x0_), (.ref x1_), (.ref x2_), .null, .null, .null, .null, .null, .null, .null] .null) :
    own_Met l (⟨"java/util/ArrayList", "clear", "()V"⟩ : MethodName) jdk_38_method_40_code 4 none ({ frames := 0, cells := 0, slots := 0, locals := 0 } : Room) Z #[(.ref a1)] h0 (fun v h L => v = none ∧ Fr n0 L ∧ Keep h0 h [a1, ed] ∧ own_AL Z h a1 ed (mc + (1 : Int32)) 0) := by
  refine own_met (plainFor_of_name own_pn_java_util_ArrayList) ?_
  intro p e s m below meth c T0 hx hby hml hZ hown hnm hret hlocks X0 e0 hh0
  have ef : entryFrame m #[(.ref a1)] 4 = mkF m 0 #[.val (.ref a1), .unset, .unset, .unset] [] := by first | (simp [entryFrame, mkF, argsToLocals, Value.category]; done) | rfl
  refine own_entry ef ?_
  have N0 := Fr.nil n0
  have K0 := Keep.refl h0 [a1, ed]
  obtain ⟨El0, Ml0, Dl0, Sl0⟩ := L0
  refine own_aloadN X0 hx (hb hby own_d_jdk_38_method_40_code_0) rfl rfl rfl ?_
  refine own_dup X0 hx (hb hby own_d_jdk_38_method_40_code_1) rfl rfl ?_
  refine own_getF X0 hx hZ hown (host := "") (Or.inl (hw _ (List.mem_of_getElem? (i := 134) rfl))) (Via.of (hw _ (List.mem_of_getElem? (i := 110) rfl))) e0 Ml0 (hb hby own_d_jdk_38_method_40_code_2) rfl ?_
  intro T1 X1 e1
  refine own_iconst X1 hx (1 : Int32) (hb hby own_d_jdk_38_method_40_code_5) (by decide) rfl ?_
  refine own_iadd X1 hx (hb hby own_d_jdk_38_method_40_code_6) rfl ?_
  refine own_putF X1 hx hZ hown (host := "") (Or.inl (hw _ (List.mem_of_getElem? (i := 134) rfl))) (Via.of (hw _ (List.mem_of_getElem? (i := 110) rfl))) e1 Ml0 El0 (Or.inl (hw _ (List.mem_of_getElem? (i := 57) rfl))) (hw _ (List.mem_of_getElem? (i := 38) rfl)) (ty := .int) (by decide) rfl rfl N0 g_a1 (hb hby own_d_jdk_38_method_40_code_7) rfl ?_
  intro T2 h2 X2 e2 W2 N2
  have K3 := K0.wr W2 (Or.inl (List.mem_of_getElem? (i := 0) rfl))
  have f4 := Ml0.same W2
  refine own_aloadN X2 hx (hb hby own_d_jdk_38_method_40_code_10) rfl rfl rfl ?_
  have f5 := (Dl0.other W2 (Or.inr (slot_ne (Or.inl (hw _ (List.mem_of_getElem? (i := 60) rfl))) (Or.inl (hw _ (List.mem_of_getElem? (i := 57) rfl))) (by decide) (t := (.array (.object "java/lang/Object"))) (t' := .int) (by decide) (by decide))))
  refine own_getF X2 hx hZ hown (host := "") (Or.inl (hw _ (List.mem_of_getElem? (i := 59) rfl))) Via.refl e2 f5 (hb hby own_d_jdk_38_method_40_code_11) rfl ?_
  intro T6 X6 e6
  refine own_astoreN X6 hx #[.val (.ref a1), .val (.ref ed), .unset, .unset] (hb hby own_d_jdk_38_method_40_code_14) rfl rfl rfl ?_
  refine own_aloadN X6 hx (hb hby own_d_jdk_38_method_40_code_15) rfl rfl rfl ?_
  have f7 := (Sl0.other W2 (Or.inr (slot_ne (Or.inl (hw _ (List.mem_of_getElem? (i := 125) rfl))) (Or.inl (hw _ (List.mem_of_getElem? (i := 57) rfl))) (by decide) (t := .int) (t' := .int) (by decide) (by decide))))
  refine own_getF X6 hx hZ hown (host := "") (Or.inl (hw _ (List.mem_of_getElem? (i := 135) rfl))) Via.refl e6 f7 (hb hby own_d_jdk_38_method_40_code_16) rfl ?_
  intro T8 X8 e8
  refine own_istoreN X8 hx #[.val (.ref a1), .val (.ref ed), .val (.int (3 : Int32)), .unset] (hb hby own_d_jdk_38_method_40_code_19) rfl rfl ?_
  refine own_aloadN X8 hx (hb hby own_d_jdk_38_method_40_code_20) rfl rfl rfl ?_
  refine own_iconst X8 hx (0 : Int32) (hb hby own_d_jdk_38_method_40_code_21) (by decide) rfl ?_
  refine own_dup_x1 X8 hx (hb hby own_d_jdk_38_method_40_code_22) rfl rfl rfl ?_
  have f9 := (El0.wr W2)
  refine own_putF X8 hx hZ hown (host := "") (Or.inl (hw _ (List.mem_of_getElem? (i := 135) rfl))) Via.refl e8 f7 f9 (Or.inl (hw _ (List.mem_of_getElem? (i := 125) rfl))) (hw _ (List.mem_of_getElem? (i := 38) rfl)) (ty := .int) (by decide) rfl rfl N2 g_a1 (hb hby own_d_jdk_38_method_40_code_23) rfl ?_
  intro T10 h10 X10 e10 W10 N10
  have K11 := K3.wr W10 (Or.inl (List.mem_of_getElem? (i := 0) rfl))
  have f12 := f7.same W10
  refine own_istoreN X10 hx #[.val (.ref a1), .val (.ref ed), .val (.int (3 : Int32)), .val (.int (0 : Int32))] (hb hby own_d_jdk_38_method_40_code_26) rfl rfl ?_
  refine own_iloadN X10 hx (hb hby own_d_jdk_38_method_40_code_27) rfl rfl ?_
  refine own_iloadN X10 hx (hb hby own_d_jdk_38_method_40_code_28) rfl rfl ?_
  refine own_icmpF X10 hx (hb hby own_d_jdk_38_method_40_code_29) rfl (by decide) ?_
  refine own_aloadN X10 hx (hb hby own_d_jdk_38_method_40_code_32) rfl rfl rfl ?_
  refine own_iloadN X10 hx (hb hby own_d_jdk_38_method_40_code_33) rfl rfl ?_
  refine own_aconst_null X10 hx (hb hby own_d_jdk_38_method_40_code_34) rfl ?_
  have f13 := ((V0.other W2 (Ne.symm (Exa.neArv El0 V0 (hw _ (List.mem_of_getElem? (i := 38) rfl))))).other W10 (Ne.symm (Exa.neArv El0 V0 (hw _ (List.mem_of_getElem? (i := 38) rfl)))))
  refine own_stR X10 hx hZ e10 f13 rfl rfl (Or.inl rfl) ⟨by decide, by decide⟩ 0 rfl (Nat.le_of_ble_eq_true rfl) N10 g_ed (hb hby own_d_jdk_38_method_40_code_35) rfl ?_
  intro T14 h14 X14 e14 W14 N14 V14
  have K15 := K11.wr W14 (Or.inl (List.mem_of_getElem? (i := 1) rfl))
  refine own_iinc X14 hx #[.val (.ref a1), .val (.ref ed), .val (.int (3 : Int32)), .val (.int (1 : Int32))] (hb hby own_d_jdk_38_method_40_code_36) rfl rfl rfl ?_
  refine own_goto X14 hx (hb hby own_d_jdk_38_method_40_code_39) (by decide) rfl ?_
  refine own_iloadN X14 hx (hb hby own_d_jdk_38_method_40_code_27) rfl rfl ?_
  refine own_iloadN X14 hx (hb hby own_d_jdk_38_method_40_code_28) rfl rfl ?_
  refine own_icmpF X14 hx (hb hby own_d_jdk_38_method_40_code_29) rfl (by decide) ?_
  refine own_aloadN X14 hx (hb hby own_d_jdk_38_method_40_code_32) rfl rfl rfl ?_
  refine own_iloadN X14 hx (hb hby own_d_jdk_38_method_40_code_33) rfl rfl ?_
  refine own_aconst_null X14 hx (hb hby own_d_jdk_38_method_40_code_34) rfl ?_
  refine own_stR X14 hx hZ e14 V14 rfl rfl (Or.inl rfl) ⟨by decide, by decide⟩ 1 rfl (Nat.le_of_ble_eq_true rfl) N14 g_ed (hb hby own_d_jdk_38_method_40_code_35) rfl ?_
  intro T16 h16 X16 e16 W16 N16 V16
  have K17 := K15.wr W16 (Or.inl (List.mem_of_getElem? (i := 1) rfl))
  refine own_iinc X16 hx #[.val (.ref a1), .val (.ref ed), .val (.int (3 : Int32)), .val (.int (2 : Int32))] (hb hby own_d_jdk_38_method_40_code_36) rfl rfl rfl ?_
  refine own_goto X16 hx (hb hby own_d_jdk_38_method_40_code_39) (by decide) rfl ?_
  refine own_iloadN X16 hx (hb hby own_d_jdk_38_method_40_code_27) rfl rfl ?_
  refine own_iloadN X16 hx (hb hby own_d_jdk_38_method_40_code_28) rfl rfl ?_
  refine own_icmpF X16 hx (hb hby own_d_jdk_38_method_40_code_29) rfl (by decide) ?_
  refine own_aloadN X16 hx (hb hby own_d_jdk_38_method_40_code_32) rfl rfl rfl ?_
  refine own_iloadN X16 hx (hb hby own_d_jdk_38_method_40_code_33) rfl rfl ?_
  refine own_aconst_null X16 hx (hb hby own_d_jdk_38_method_40_code_34) rfl ?_
  refine own_stR X16 hx hZ e16 V16 rfl rfl (Or.inl rfl) ⟨by decide, by decide⟩ 2 rfl (Nat.le_of_ble_eq_true rfl) N16 g_ed (hb hby own_d_jdk_38_method_40_code_35) rfl ?_
  intro T18 h18 X18 e18 W18 N18 V18
  have K19 := K17.wr W18 (Or.inl (List.mem_of_getElem? (i := 1) rfl))
  refine own_iinc X18 hx #[.val (.ref a1), .val (.ref ed), .val (.int (3 : Int32)), .val (.int (3 : Int32))] (hb hby own_d_jdk_38_method_40_code_36) rfl rfl rfl ?_
  refine own_goto X18 hx (hb hby own_d_jdk_38_method_40_code_39) (by decide) rfl ?_
  refine own_iloadN X18 hx (hb hby own_d_jdk_38_method_40_code_27) rfl rfl ?_
  refine own_iloadN X18 hx (hb hby own_d_jdk_38_method_40_code_28) rfl rfl ?_
  refine own_icmpT X18 hx (hb hby own_d_jdk_38_method_40_code_29) (by decide) rfl (by decide) ?_
  have f20 := ((((f9.wr W10).wr W14).wr W16).wr W18)
  have f21 := ((((f4.other W10 (Or.inr (slot_ne (Or.inl (hw _ (List.mem_of_getElem? (i := 57) rfl))) (Or.inl (hw _ (List.mem_of_getElem? (i := 125) rfl))) (by decide) (t := .int) (t' := .int) (by decide) (by decide)))).other W14 (Or.inl (Exa.neArv El0 V0 (hw _ (List.mem_of_getElem? (i := 38) rfl))))).other W16 (Or.inl (Exa.neArv El0 V0 (hw _ (List.mem_of_getElem? (i := 38) rfl))))).other W18 (Or.inl (Exa.neArv El0 V0 (hw _ (List.mem_of_getElem? (i := 38) rfl)))))
  have f22 := ((((f5.other W10 (Or.inr (slot_ne (Or.inl (hw _ (List.mem_of_getElem? (i := 60) rfl))) (Or.inl (hw _ (List.mem_of_getElem? (i := 125) rfl))) (by decide) (t := (.array (.object "java/lang/Object"))) (t' := .int) (by decide) (by decide)))).other W14 (Or.inl (Exa.neArv El0 V0 (hw _ (List.mem_of_getElem? (i := 38) rfl))))).other W16 (Or.inl (Exa.neArv El0 V0 (hw _ (List.mem_of_getElem? (i := 38) rfl))))).other W18 (Or.inl (Exa.neArv El0 V0 (hw _ (List.mem_of_getElem? (i := 38) rfl)))))
  have f23 := (((f12.other W14 (Or.inl (Exa.neArv El0 V0 (hw _ (List.mem_of_getElem? (i := 38) rfl))))).other W16 (Or.inl (Exa.neArv El0 V0 (hw _ (List.mem_of_getElem? (i := 38) rfl))))).other W18 (Or.inl (Exa.neArv El0 V0 (hw _ (List.mem_of_getElem? (i := 38) rfl)))))
  exact own_ret X18 hx hlocks hret (hb hby own_d_jdk_38_method_40_code_42) (by decide) (by decide) ⟨rfl, N18, by rw [e18]; exact ⟨K19, ⟨f20, f21, f22, f23⟩⟩⟩
set_option maxRecDepth 65536 in
set_option maxHeartbeats 40000000 in
theorem own_fin (l : Launch) (Z : State) (a0 : Array Value) (hw : ∀ d ∈ tables_1, d.before a0 Z = true) (a1 s1 : Addr) (p1 : Int32) (h0 : Heap) (n0 : Nat) (g_a1 : n0 ≤ a1) (E0 : Exa Z h0 a1 "com/example/ledgerleaf/ledgerleaf/Finding") (D0 : (∀ {O nm d : String} {ty : FieldType}, Laid Z a0 "com/example/ledgerleaf/ledgerleaf/Finding" O nm d → parseFieldDescriptor d = some ty → Fld Z h0 a1 O nm d (defaultValue ty))) :
    own_Met l (⟨"com/example/ledgerleaf/ledgerleaf/Finding", "<init>", "(ILjava/lang/String;)V"⟩ : MethodName) prog_39_method_1_code 3 none ({ frames := 2, cells := 0, slots := 0, locals := 24 } : Room) Z #[(.ref a1), (.int p1), (.ref s1)] h0 (fun v h L => v = none ∧ Fr n0 L ∧ Keep h0 h [a1] ∧ Exa Z h a1 "com/example/ledgerleaf/ledgerleaf/Finding" ∧ Fld Z h a1 "com/example/ledgerleaf/ledgerleaf/Finding" "message" "Ljava/lang/String;" (.ref s1)) := by
  refine own_met (plainFor_of_name own_pn_com_example_ledgerleaf_ledgerleaf_Finding) ?_
  intro p e s m below meth c T0 hx hby hml hZ hown hnm hret hlocks X0 e0 hh0
  have ef : entryFrame m #[(.ref a1), (.int p1), (.ref s1)] 3 = mkF m 0 #[.val (.ref a1), .val (.int p1), .val (.ref s1)] [] := by first | (simp [entryFrame, mkF, argsToLocals, Value.category]; done) | rfl
  refine own_entry ef ?_
  have N0 := Fr.nil n0
  have K0 := Keep.refl h0 [a1]
  have Fa1_line : Fld Z h0 a1 "com/example/ledgerleaf/ledgerleaf/Finding" "line" "I" (.int (0 : Int32)) := D0 (Or.inr (hw _ (List.mem_of_getElem? (i := 151) rfl))) (ty := .int) (by decide)
  have Fa1_message : Fld Z h0 a1 "com/example/ledgerleaf/ledgerleaf/Finding" "message" "Ljava/lang/String;" .null := D0 (Or.inr (hw _ (List.mem_of_getElem? (i := 153) rfl))) (ty := (.object "java/lang/String")) (by decide)
  refine own_aloadN X0 hx (hb hby own_d_prog_39_method_1_code_0) rfl rfl rfl ?_
  refine own_special X0 hx hZ (y := (⟨"java/lang/Record", "<init>", "()V"⟩ : MethodName)) rfl hown (hw _ (List.mem_of_getElem? (i := 144) rfl)) (hw _ (List.mem_of_getElem? (i := 145) rfl)) (hw _ (List.mem_of_getElem? (i := 147) rfl)) (hw _ (List.mem_of_getElem? (i := 148) rfl)) (by decide) e0 (by decide) (W := 0) (by decide) (by decide) (by decide) [] [] (by rw [hml]; rfl) (a := a1) (own_rec l Z a0 hw a1 h0 n0) own_pd0 rfl rfl rfl (hb hby own_d_prog_39_method_1_code_1) rfl ?_
  intro v1 T1 L1 X1 hQ1
  obtain ⟨rfl, Nq1, hh1⟩ := hQ1
  have N1 := Fr.app N0 Nq1
  show own_Ends p e below _ (T1.setTop (mkF m 4 #[.val (.ref a1), .val (.int p1), .val (.ref s1)] []))
  refine own_aloadN X1 hx (hb hby own_d_prog_39_method_1_code_4) rfl rfl rfl ?_
  refine own_iloadN X1 hx (hb hby own_d_prog_39_method_1_code_5) rfl rfl ?_
  refine own_putF X1 hx hZ hown (host := "") (Or.inl (hw _ (List.mem_of_getElem? (i := 150) rfl))) Via.refl hh1 Fa1_line E0 (Or.inr ⟨(hw _ (List.mem_of_getElem? (i := 151) rfl)), rfl, hnm⟩) (hw _ (List.mem_of_getElem? (i := 139) rfl)) (ty := .int) (by decide) rfl rfl N1 g_a1 (hb hby own_d_prog_39_method_1_code_6) rfl ?_
  intro T2 h2 X2 e2 W2 N2
  have K3 := K0.wr W2 (Or.inl (List.mem_of_getElem? (i := 0) rfl))
  have f4 := Fa1_line.same W2
  refine own_aloadN X2 hx (hb hby own_d_prog_39_method_1_code_9) rfl rfl rfl ?_
  refine own_aloadN X2 hx (hb hby own_d_prog_39_method_1_code_10) rfl rfl rfl ?_
  have f5 := (Fa1_message.other W2 (Or.inr (slot_ne (Or.inr (hw _ (List.mem_of_getElem? (i := 153) rfl))) (Or.inr (hw _ (List.mem_of_getElem? (i := 151) rfl))) (by decide) (t := (.object "java/lang/String")) (t' := .int) (by decide) (by decide))))
  have f6 := (E0.wr W2)
  refine own_putF X2 hx hZ hown (host := "") (Or.inl (hw _ (List.mem_of_getElem? (i := 152) rfl))) Via.refl e2 f5 f6 (Or.inr ⟨(hw _ (List.mem_of_getElem? (i := 153) rfl)), rfl, hnm⟩) (hw _ (List.mem_of_getElem? (i := 139) rfl)) (ty := (.object "java/lang/String")) (by decide) rfl rfl N2 g_a1 (hb hby own_d_prog_39_method_1_code_11) rfl ?_
  intro T7 h7 X7 e7 W7 N7
  have K8 := K3.wr W7 (Or.inl (List.mem_of_getElem? (i := 0) rfl))
  have f9 := f5.same W7
  have f10 := (f6.wr W7)
  exact own_ret X7 hx hlocks hret (hb hby own_d_prog_39_method_1_code_14) (by decide) (by decide) ⟨rfl, N7, by rw [e7]; exact ⟨K8, f10, f9⟩⟩
set_option maxRecDepth 65536 in
set_option maxHeartbeats 40000000 in
theorem own_msg (l : Launch) (Z : State) (a0 : Array Value) (hw : ∀ d ∈ tables_1, d.before a0 Z = true) (a1 s1 : Addr) (h0 : Heap) (n0 : Nat) (F1 : Fld Z h0 a1 "com/example/ledgerleaf/ledgerleaf/Finding" "message" "Ljava/lang/String;" (.ref s1)) :
    own_Met l (⟨"com/example/ledgerleaf/ledgerleaf/Finding", "message", "()Ljava/lang/String;"⟩ : MethodName) prog_39_method_12_code 1 (some (.object "java/lang/String")) ({ frames := 0, cells := 0, slots := 0, locals := 0 } : Room) Z #[(.ref a1)] h0 (fun v h L => v = some (.ref s1) ∧ Fr n0 L ∧ h = h0) := by
  refine own_met (plainFor_of_name own_pn_com_example_ledgerleaf_ledgerleaf_Finding) ?_
  intro p e s m below meth c T0 hx hby hml hZ hown hnm hret hlocks X0 e0 hh0
  have ef : entryFrame m #[(.ref a1)] 1 = mkF m 0 #[.val (.ref a1)] [] := by first | (simp [entryFrame, mkF, argsToLocals, Value.category]; done) | rfl
  refine own_entry ef ?_
  have N0 := Fr.nil n0
  refine own_aloadN X0 hx (hb hby own_d_prog_39_method_12_code_0) rfl rfl rfl ?_
  refine own_getF X0 hx hZ hown (host := "") (Or.inl (hw _ (List.mem_of_getElem? (i := 152) rfl))) Via.refl e0 F1 (hb hby own_d_prog_39_method_12_code_1) rfl ?_
  intro T1 X1 e1
  exact own_retA X1 hx hlocks hret rfl rfl (hb hby own_d_prog_39_method_12_code_4) (by decide) (by decide) ⟨rfl, N0, e1⟩
set_option maxRecDepth 65536 in
set_option maxHeartbeats 40000000 in
theorem own_lsz (l : Launch) (Z : State) (a0 : Array Value) (hw : ∀ d ∈ tables_1, d.before a0 Z = true) (a1 : Addr) (nn : Int32) (h0 : Heap) (n0 : Nat) (F1 : Fld Z h0 a1 "java/util/ArrayList" "size" "I" (.int nn)) :
    own_Met l (⟨"java/util/ArrayList", "size", "()I"⟩ : MethodName) jdk_38_method_8_code 1 (some .int) ({ frames := 0, cells := 0, slots := 0, locals := 0 } : Room) Z #[(.ref a1)] h0 (fun v h L => v = some (.int nn) ∧ Fr n0 L ∧ h = h0) := by
  refine own_met (plainFor_of_name own_pn_java_util_ArrayList) ?_
  intro p e s m below meth c T0 hx hby hml hZ hown hnm hret hlocks X0 e0 hh0
  have ef : entryFrame m #[(.ref a1)] 1 = mkF m 0 #[.val (.ref a1)] [] := by first | (simp [entryFrame, mkF, argsToLocals, Value.category]; done) | rfl
  refine own_entry ef ?_
  have N0 := Fr.nil n0
  refine own_aloadN X0 hx (hb hby own_d_jdk_38_method_8_code_0) rfl rfl rfl ?_
  refine own_getF X0 hx hZ hown (host := "") (Or.inl (hw _ (List.mem_of_getElem? (i := 135) rfl))) Via.refl e0 F1 (hb hby own_d_jdk_38_method_8_code_1) rfl ?_
  intro T1 X1 e1
  exact own_retI X1 hx hlocks hret (hb hby own_d_jdk_38_method_8_code_4) (by decide) (by decide) ⟨rfl, N0, e1⟩
set_option maxRecDepth 65536 in
set_option maxHeartbeats 40000000 in
theorem own_fsi (l : Launch) (Z : State) (a0 : Array Value) (hw : ∀ d ∈ tables_1, d.before a0 Z = true) (a1 de : Addr) (kd : ClassId) (h0 : Heap) (n0 : Nat) (O0 : Old Z n0 h0) (g_a1 : n0 ≤ a1) (SD : Sta Z Z.heap "java/util/ArrayList" "DEFAULTCAPACITY_EMPTY_ELEMENTDATA" "[Ljava/lang/Object;" (.ref de)) (VD : Arv Z Z.heap de kd (.object "java/lang/Object") (0 : Int32) [] .null) (E0 : Exa Z h0 a1 "com/example/ledgerleaf/ledgerleaf/Findings") (D0 : (∀ {O nm d : String} {ty : FieldType}, Laid Z a0 "com/example/ledgerleaf/ledgerleaf/Findings" O nm d → parseFieldDescriptor d = some ty → Fld Z h0 a1 O nm d (defaultValue ty))) :
    own_Met l (⟨"com/example/ledgerleaf/ledgerleaf/Findings", "<init>", "(II)V"⟩ : MethodName) prog_40_method_2_code 3 none ({ frames := 4, cells := 2, slots := 6, locals := 50 } : Room) Z #[(.ref a1), (.int (1000 : Int32)), (.int (64 : Int32))] h0 (fun v h L => v = none ∧ Fr n0 L ∧ Keep h0 h [a1] ∧ ∃ lb lr : Addr, n0 ≤ lb ∧ n0 ≤ lr ∧ lb ≠ lr ∧ Exa Z h a1 "com/example/ledgerleaf/ledgerleaf/Findings" ∧ Fld Z h a1 "com/example/ledgerleaf/ledgerleaf/Findings" "m_aBatch" "Ljava/util/List;" (.ref lb) ∧ Fld Z h a1 "com/example/ledgerleaf/ledgerleaf/Findings" "m_aRuns" "Ljava/util/List;" (.ref lr) ∧ Fld Z h a1 "com/example/ledgerleaf/ledgerleaf/Findings" "m_nBatch" "I" (.int (1000 : Int32)) ∧ Fld Z h a1 "com/example/ledgerleaf/ledgerleaf/Findings" "m_bSorted" "Z" (.int (1 : Int32)) ∧ Fld Z h a1 "com/example/ledgerleaf/ledgerleaf/Findings" "m_nCount" "J" (.long (0 : Int64)) ∧ Fld Z h a1 "com/example/ledgerleaf/ledgerleaf/Findings" "m_nBatchLength" "J" (.long (0 : Int64)) ∧ own_AL Z h lb de 0 0 ∧ own_AL Z h lr de 0 0) := by
  refine own_met (plainFor_of_name own_pn_com_example_ledgerleaf_ledgerleaf_Findings) ?_
  intro p e s m below meth c T0 hx hby hml hZ hown hnm hret hlocks X0 e0 hh0
  have ef : entryFrame m #[(.ref a1), (.int (1000 : Int32)), (.int (64 : Int32))] 3 = mkF m 0 #[.val (.ref a1), .val (.int (1000 : Int32)), .val (.int (64 : Int32))] [] := by first | (simp [entryFrame, mkF, argsToLocals, Value.category]; done) | rfl
  refine own_entry ef ?_
  have N0 := Fr.nil n0
  have K0 := Keep.refl h0 [a1]
  have Fa1_m_aBatch : Fld Z h0 a1 "com/example/ledgerleaf/ledgerleaf/Findings" "m_aBatch" "Ljava/util/List;" .null := D0 (Or.inr (hw _ (List.mem_of_getElem? (i := 62) rfl))) (ty := (.object "java/util/List")) (by decide)
  have Fa1_m_bSorted : Fld Z h0 a1 "com/example/ledgerleaf/ledgerleaf/Findings" "m_bSorted" "Z" (.int (0 : Int32)) := D0 (Or.inl (hw _ (List.mem_of_getElem? (i := 64) rfl))) (ty := .boolean) (by decide)
  have Fa1_m_aRuns : Fld Z h0 a1 "com/example/ledgerleaf/ledgerleaf/Findings" "m_aRuns" "Ljava/util/List;" .null := D0 (Or.inr (hw _ (List.mem_of_getElem? (i := 66) rfl))) (ty := (.object "java/util/List")) (by decide)
  have Fa1_m_nBatch : Fld Z h0 a1 "com/example/ledgerleaf/ledgerleaf/Findings" "m_nBatch" "I" (.int (0 : Int32)) := D0 (Or.inr (hw _ (List.mem_of_getElem? (i := 68) rfl))) (ty := .int) (by decide)
  have Fa1_m_nFanIn : Fld Z h0 a1 "com/example/ledgerleaf/ledgerleaf/Findings" "m_nFanIn" "I" (.int (0 : Int32)) := D0 (Or.inr (hw _ (List.mem_of_getElem? (i := 70) rfl))) (ty := .int) (by decide)
  have Fa1_m_nCount : Fld Z h0 a1 "com/example/ledgerleaf/ledgerleaf/Findings" "m_nCount" "J" (.long (0 : Int64)) := D0 (Or.inl (hw _ (List.mem_of_getElem? (i := 77) rfl))) (ty := .long) (by decide)
  have Fa1_m_nBatchLength : Fld Z h0 a1 "com/example/ledgerleaf/ledgerleaf/Findings" "m_nBatchLength" "J" (.long (0 : Int64)) := D0 (Or.inl (hw _ (List.mem_of_getElem? (i := 137) rfl))) (ty := .long) (by decide)
  refine own_aloadN X0 hx (hb hby own_d_prog_40_method_2_code_0) rfl rfl rfl ?_
  refine own_initO X0 hx hZ hown (hw _ (List.mem_of_getElem? (i := 36) rfl)) (hw _ (List.mem_of_getElem? (i := 12) rfl)) (hw _ (List.mem_of_getElem? (i := 13) rfl)) e0 (by rw [hml]; rfl) (hb hby own_d_prog_40_method_2_code_1) 0 rfl (by decide) (by decide) rfl ?_
  intro T1 X1 e1
  refine own_aloadN X1 hx (hb hby own_d_prog_40_method_2_code_4) rfl rfl rfl ?_
  refine own_new X1 hx hZ hown (hw _ (List.mem_of_getElem? (i := 37) rfl)) (hw _ (List.mem_of_getElem? (i := 38) rfl)) (hw _ (List.mem_of_getElem? (i := 39) rfl)) e1 (hb hby own_d_prog_40_method_2_code_5) (by decide) (by decide) rfl ?_
  intro T2 h2 b2 X2 e2 g2 E2 A2 D2
  have g_b2 : n0 ≤ b2 := Nat.le_trans (own_oz O0) (Nat.le_of_eq g2.symm)
  have sz_b2 : h0.size ≤ b2 := Nat.le_trans K0.1 (Nat.le_of_eq g2.symm)
  have K3 := K0.ext E2
  have Fb2_modCount : Fld Z h2 b2 "java/util/AbstractList" "modCount" "I" (.int (0 : Int32)) := D2 (Or.inl (hw _ (List.mem_of_getElem? (i := 57) rfl))) (ty := .int) (by decide)
  have Fb2_elementData : Fld Z h2 b2 "java/util/ArrayList" "elementData" "[Ljava/lang/Object;" .null := D2 (Or.inl (hw _ (List.mem_of_getElem? (i := 60) rfl))) (ty := (.array (.object "java/lang/Object"))) (by decide)
  have Fb2_size : Fld Z h2 b2 "java/util/ArrayList" "size" "I" (.int (0 : Int32)) := D2 (Or.inl (hw _ (List.mem_of_getElem? (i := 125) rfl))) (ty := .int) (by decide)
  refine own_dup X2 hx (hb hby own_d_prog_40_method_2_code_8) rfl rfl ?_
  have f4 := (O0.ext E2)
  refine own_special X2 hx hZ (y := (⟨"java/util/ArrayList", "<init>", "()V"⟩ : MethodName)) rfl hown (hw _ (List.mem_of_getElem? (i := 40) rfl)) (hw _ (List.mem_of_getElem? (i := 41) rfl)) (hw _ (List.mem_of_getElem? (i := 39) rfl)) (hw _ (List.mem_of_getElem? (i := 42) rfl)) (by decide) e2 (by decide) (W := 2) (by decide) (by decide) (by decide) [] [(.ref b2), (.ref a1)] (by rw [hml]; rfl) (a := b2) (own_ali l Z a0 hw b2 de kd h2 n0 f4 g_b2 SD VD A2 D2) own_pd0 rfl rfl rfl (hb hby own_d_prog_40_method_2_code_9) rfl ?_
  intro v5 T5 L5 X5 hQ5
  obtain ⟨rfl, Nq5, Kq5, Al5⟩ := hQ5
  have N5 := Fr.app N0 Nq5
  have K6 := K3.trans Kq5 (allS (Or.inr sz_b2) all0)
  obtain ⟨El5, Ml5, Dl5, Sl5⟩ := Al5
  show own_Ends p e below _ (T5.setTop (mkF m 12 #[.val (.ref a1), .val (.int (1000 : Int32)), .val (.int (64 : Int32))] [(.ref b2), (.ref a1)]))
  have f7 := ((Fa1_m_aBatch.ext E2).keep Kq5 (ninS (Nat.ne_of_lt (Nat.lt_of_lt_of_le E0.lt (Nat.le_of_eq g2.symm))) nin0))
  have f8 := ((E0.ext E2).keep Kq5)
  refine own_putF X5 hx hZ hown (host := "") (Or.inl (hw _ (List.mem_of_getElem? (i := 61) rfl))) Via.refl rfl f7 f8 (Or.inr ⟨(hw _ (List.mem_of_getElem? (i := 62) rfl)), rfl, hnm⟩) (hw _ (List.mem_of_getElem? (i := 31) rfl)) (ty := (.object "java/util/List")) (by decide) rfl rfl N5 g_a1 (hb hby own_d_prog_40_method_2_code_12) rfl ?_
  intro T9 h9 X9 e9 W9 N9
  have K10 := K6.wr W9 (Or.inl (List.mem_of_getElem? (i := 0) rfl))
  have f11 := f7.same W9
  refine own_aloadN X9 hx (hb hby own_d_prog_40_method_2_code_15) rfl rfl rfl ?_
  refine own_iconst X9 hx (1 : Int32) (hb hby own_d_prog_40_method_2_code_16) (by decide) rfl ?_
  have f12 := (((Fa1_m_bSorted.ext E2).keep Kq5 (ninS (Nat.ne_of_lt (Nat.lt_of_lt_of_le E0.lt (Nat.le_of_eq g2.symm))) nin0)).other W9 (Or.inr (slot_ne (Or.inl (hw _ (List.mem_of_getElem? (i := 64) rfl))) (Or.inr (hw _ (List.mem_of_getElem? (i := 62) rfl))) (by decide) (t := .boolean) (t' := (.object "java/util/List")) (by decide) (by decide))))
  have f13 := (f8.wr W9)
  refine own_putFN X9 hx hZ hown (hw _ (List.mem_of_getElem? (i := 63) rfl)) Via.refl e9 (.int (1 : Int32)) f12 f13 (Or.inl (hw _ (List.mem_of_getElem? (i := 64) rfl))) (hw _ (List.mem_of_getElem? (i := 31) rfl)) (ty := .boolean) (by decide) rfl rfl N9 g_a1 (hb hby own_d_prog_40_method_2_code_17) rfl ?_
  intro T14 h14 X14 e14 W14 N14
  have K15 := K10.wr W14 (Or.inl (List.mem_of_getElem? (i := 0) rfl))
  have f16 := f12.same W14
  refine own_aloadN X14 hx (hb hby own_d_prog_40_method_2_code_20) rfl rfl rfl ?_
  refine own_new X14 hx hZ hown (hw _ (List.mem_of_getElem? (i := 37) rfl)) (hw _ (List.mem_of_getElem? (i := 38) rfl)) (hw _ (List.mem_of_getElem? (i := 39) rfl)) e14 (hb hby own_d_prog_40_method_2_code_21) (by decide) (by decide) rfl ?_
  intro T17 h17 b17 X17 e17 g17 E17 A17 D17
  have f18 := (((f4.keep Kq5 (allS g_b2 all0)).wr W9 g_a1).wr W14 g_a1)
  have g_b17 : n0 ≤ b17 := Nat.le_trans (own_oz f18) (Nat.le_of_eq g17.symm)
  have sz_b17 : h0.size ≤ b17 := Nat.le_trans K15.1 (Nat.le_of_eq g17.symm)
  have K19 := K15.ext E17
  have Fb17_modCount : Fld Z h17 b17 "java/util/AbstractList" "modCount" "I" (.int (0 : Int32)) := D17 (Or.inl (hw _ (List.mem_of_getElem? (i := 57) rfl))) (ty := .int) (by decide)
  have Fb17_elementData : Fld Z h17 b17 "java/util/ArrayList" "elementData" "[Ljava/lang/Object;" .null := D17 (Or.inl (hw _ (List.mem_of_getElem? (i := 60) rfl))) (ty := (.array (.object "java/lang/Object"))) (by decide)
  have Fb17_size : Fld Z h17 b17 "java/util/ArrayList" "size" "I" (.int (0 : Int32)) := D17 (Or.inl (hw _ (List.mem_of_getElem? (i := 125) rfl))) (ty := .int) (by decide)
  refine own_dup X17 hx (hb hby own_d_prog_40_method_2_code_24) rfl rfl ?_
  have f20 := (f18.ext E17)
  refine own_special X17 hx hZ (y := (⟨"java/util/ArrayList", "<init>", "()V"⟩ : MethodName)) rfl hown (hw _ (List.mem_of_getElem? (i := 40) rfl)) (hw _ (List.mem_of_getElem? (i := 41) rfl)) (hw _ (List.mem_of_getElem? (i := 39) rfl)) (hw _ (List.mem_of_getElem? (i := 42) rfl)) (by decide) e17 (by decide) (W := 2) (by decide) (by decide) (by decide) [] [(.ref b17), (.ref a1)] (by rw [hml]; rfl) (a := b17) (own_ali l Z a0 hw b17 de kd h17 n0 f20 g_b17 SD VD A17 D17) own_pd0 rfl rfl rfl (hb hby own_d_prog_40_method_2_code_25) rfl ?_
  intro v21 T21 L21 X21 hQ21
  obtain ⟨rfl, Nq21, Kq21, Al21⟩ := hQ21
  have N21 := Fr.app N14 Nq21
  have K22 := K19.trans Kq21 (allS (Or.inr sz_b17) all0)
  obtain ⟨El21, Ml21, Dl21, Sl21⟩ := Al21
  show own_Ends p e below _ (T21.setTop (mkF m 28 #[.val (.ref a1), .val (.int (1000 : Int32)), .val (.int (64 : Int32))] [(.ref b17), (.ref a1)]))
  have f23 := ((((((Fa1_m_aRuns.ext E2).keep Kq5 (ninS (Nat.ne_of_lt (Nat.lt_of_lt_of_le E0.lt (Nat.le_of_eq g2.symm))) nin0)).other W9 (Or.inr (slot_ne (Or.inr (hw _ (List.mem_of_getElem? (i := 66) rfl))) (Or.inr (hw _ (List.mem_of_getElem? (i := 62) rfl))) (by decide) (t := (.object "java/util/List")) (t' := (.object "java/util/List")) (by decide) (by decide)))).other W14 (Or.inr (slot_ne (Or.inr (hw _ (List.mem_of_getElem? (i := 66) rfl))) (Or.inl (hw _ (List.mem_of_getElem? (i := 64) rfl))) (by decide) (t := (.object "java/util/List")) (t' := .boolean) (by decide) (by decide)))).ext E17).keep Kq21 (ninS (Nat.ne_of_lt (Nat.lt_of_lt_of_le f16.lt (Nat.le_of_eq g17.symm))) nin0))
  have f24 := (((f13.wr W14).ext E17).keep Kq21)
  refine own_putF X21 hx hZ hown (host := "") (Or.inl (hw _ (List.mem_of_getElem? (i := 65) rfl))) Via.refl rfl f23 f24 (Or.inr ⟨(hw _ (List.mem_of_getElem? (i := 66) rfl)), rfl, hnm⟩) (hw _ (List.mem_of_getElem? (i := 31) rfl)) (ty := (.object "java/util/List")) (by decide) rfl rfl N21 g_a1 (hb hby own_d_prog_40_method_2_code_28) rfl ?_
  intro T25 h25 X25 e25 W25 N25
  have K26 := K22.wr W25 (Or.inl (List.mem_of_getElem? (i := 0) rfl))
  have f27 := f23.same W25
  refine own_aloadN X25 hx (hb hby own_d_prog_40_method_2_code_31) rfl rfl rfl ?_
  refine own_iloadN X25 hx (hb hby own_d_prog_40_method_2_code_32) rfl rfl ?_
  have f28 := (((((((Fa1_m_nBatch.ext E2).keep Kq5 (ninS (Nat.ne_of_lt (Nat.lt_of_lt_of_le E0.lt (Nat.le_of_eq g2.symm))) nin0)).other W9 (Or.inr (slot_ne (Or.inr (hw _ (List.mem_of_getElem? (i := 68) rfl))) (Or.inr (hw _ (List.mem_of_getElem? (i := 62) rfl))) (by decide) (t := .int) (t' := (.object "java/util/List")) (by decide) (by decide)))).other W14 (Or.inr (slot_ne (Or.inr (hw _ (List.mem_of_getElem? (i := 68) rfl))) (Or.inl (hw _ (List.mem_of_getElem? (i := 64) rfl))) (by decide) (t := .int) (t' := .boolean) (by decide) (by decide)))).ext E17).keep Kq21 (ninS (Nat.ne_of_lt (Nat.lt_of_lt_of_le f16.lt (Nat.le_of_eq g17.symm))) nin0)).other W25 (Or.inr (slot_ne (Or.inr (hw _ (List.mem_of_getElem? (i := 68) rfl))) (Or.inr (hw _ (List.mem_of_getElem? (i := 66) rfl))) (by decide) (t := .int) (t' := (.object "java/util/List")) (by decide) (by decide))))
  have f29 := (f24.wr W25)
  refine own_putF X25 hx hZ hown (host := "") (Or.inl (hw _ (List.mem_of_getElem? (i := 67) rfl))) Via.refl e25 f28 f29 (Or.inr ⟨(hw _ (List.mem_of_getElem? (i := 68) rfl)), rfl, hnm⟩) (hw _ (List.mem_of_getElem? (i := 31) rfl)) (ty := .int) (by decide) rfl rfl N25 g_a1 (hb hby own_d_prog_40_method_2_code_33) rfl ?_
  intro T30 h30 X30 e30 W30 N30
  have K31 := K26.wr W30 (Or.inl (List.mem_of_getElem? (i := 0) rfl))
  have f32 := f28.same W30
  refine own_aloadN X30 hx (hb hby own_d_prog_40_method_2_code_36) rfl rfl rfl ?_
  refine own_iloadN X30 hx (hb hby own_d_prog_40_method_2_code_37) rfl rfl ?_
  have f33 := ((((((((Fa1_m_nFanIn.ext E2).keep Kq5 (ninS (Nat.ne_of_lt (Nat.lt_of_lt_of_le E0.lt (Nat.le_of_eq g2.symm))) nin0)).other W9 (Or.inr (slot_ne (Or.inr (hw _ (List.mem_of_getElem? (i := 70) rfl))) (Or.inr (hw _ (List.mem_of_getElem? (i := 62) rfl))) (by decide) (t := .int) (t' := (.object "java/util/List")) (by decide) (by decide)))).other W14 (Or.inr (slot_ne (Or.inr (hw _ (List.mem_of_getElem? (i := 70) rfl))) (Or.inl (hw _ (List.mem_of_getElem? (i := 64) rfl))) (by decide) (t := .int) (t' := .boolean) (by decide) (by decide)))).ext E17).keep Kq21 (ninS (Nat.ne_of_lt (Nat.lt_of_lt_of_le f16.lt (Nat.le_of_eq g17.symm))) nin0)).other W25 (Or.inr (slot_ne (Or.inr (hw _ (List.mem_of_getElem? (i := 70) rfl))) (Or.inr (hw _ (List.mem_of_getElem? (i := 66) rfl))) (by decide) (t := .int) (t' := (.object "java/util/List")) (by decide) (by decide)))).other W30 (Or.inr (slot_ne (Or.inr (hw _ (List.mem_of_getElem? (i := 70) rfl))) (Or.inr (hw _ (List.mem_of_getElem? (i := 68) rfl))) (by decide) (t := .int) (t' := .int) (by decide) (by decide))))
  have f34 := (f29.wr W30)
  refine own_putF X30 hx hZ hown (host := "") (Or.inl (hw _ (List.mem_of_getElem? (i := 69) rfl))) Via.refl e30 f33 f34 (Or.inr ⟨(hw _ (List.mem_of_getElem? (i := 70) rfl)), rfl, hnm⟩) (hw _ (List.mem_of_getElem? (i := 31) rfl)) (ty := .int) (by decide) rfl rfl N30 g_a1 (hb hby own_d_prog_40_method_2_code_38) rfl ?_
  intro T35 h35 X35 e35 W35 N35
  have K36 := K31.wr W35 (Or.inl (List.mem_of_getElem? (i := 0) rfl))
  have f37 := f33.same W35
  have f38 := (f34.wr W35)
  have f39 := ((((((f11.other W14 (Or.inr (slot_ne (Or.inr (hw _ (List.mem_of_getElem? (i := 62) rfl))) (Or.inl (hw _ (List.mem_of_getElem? (i := 64) rfl))) (by decide) (t := (.object "java/util/List")) (t' := .boolean) (by decide) (by decide)))).ext E17).keep Kq21 (ninS (Nat.ne_of_lt (Nat.lt_of_lt_of_le f16.lt (Nat.le_of_eq g17.symm))) nin0)).other W25 (Or.inr (slot_ne (Or.inr (hw _ (List.mem_of_getElem? (i := 62) rfl))) (Or.inr (hw _ (List.mem_of_getElem? (i := 66) rfl))) (by decide) (t := (.object "java/util/List")) (t' := (.object "java/util/List")) (by decide) (by decide)))).other W30 (Or.inr (slot_ne (Or.inr (hw _ (List.mem_of_getElem? (i := 62) rfl))) (Or.inr (hw _ (List.mem_of_getElem? (i := 68) rfl))) (by decide) (t := (.object "java/util/List")) (t' := .int) (by decide) (by decide)))).other W35 (Or.inr (slot_ne (Or.inr (hw _ (List.mem_of_getElem? (i := 62) rfl))) (Or.inr (hw _ (List.mem_of_getElem? (i := 70) rfl))) (by decide) (t := (.object "java/util/List")) (t' := .int) (by decide) (by decide))))
  have f40 := ((f27.other W30 (Or.inr (slot_ne (Or.inr (hw _ (List.mem_of_getElem? (i := 66) rfl))) (Or.inr (hw _ (List.mem_of_getElem? (i := 68) rfl))) (by decide) (t := (.object "java/util/List")) (t' := .int) (by decide) (by decide)))).other W35 (Or.inr (slot_ne (Or.inr (hw _ (List.mem_of_getElem? (i := 66) rfl))) (Or.inr (hw _ (List.mem_of_getElem? (i := 70) rfl))) (by decide) (t := (.object "java/util/List")) (t' := .int) (by decide) (by decide))))
  have f41 := (f32.other W35 (Or.inr (slot_ne (Or.inr (hw _ (List.mem_of_getElem? (i := 68) rfl))) (Or.inr (hw _ (List.mem_of_getElem? (i := 70) rfl))) (by decide) (t := .int) (t' := .int) (by decide) (by decide))))
  have f42 := (((((f16.ext E17).keep Kq21 (ninS (Nat.ne_of_lt (Nat.lt_of_lt_of_le f16.lt (Nat.le_of_eq g17.symm))) nin0)).other W25 (Or.inr (slot_ne (Or.inl (hw _ (List.mem_of_getElem? (i := 64) rfl))) (Or.inr (hw _ (List.mem_of_getElem? (i := 66) rfl))) (by decide) (t := .boolean) (t' := (.object "java/util/List")) (by decide) (by decide)))).other W30 (Or.inr (slot_ne (Or.inl (hw _ (List.mem_of_getElem? (i := 64) rfl))) (Or.inr (hw _ (List.mem_of_getElem? (i := 68) rfl))) (by decide) (t := .boolean) (t' := .int) (by decide) (by decide)))).other W35 (Or.inr (slot_ne (Or.inl (hw _ (List.mem_of_getElem? (i := 64) rfl))) (Or.inr (hw _ (List.mem_of_getElem? (i := 70) rfl))) (by decide) (t := .boolean) (t' := .int) (by decide) (by decide))))
  have f43 := (((((((((Fa1_m_nCount.ext E2).keep Kq5 (ninS (Nat.ne_of_lt (Nat.lt_of_lt_of_le E0.lt (Nat.le_of_eq g2.symm))) nin0)).other W9 (Or.inr (slot_ne (Or.inl (hw _ (List.mem_of_getElem? (i := 77) rfl))) (Or.inr (hw _ (List.mem_of_getElem? (i := 62) rfl))) (by decide) (t := .long) (t' := (.object "java/util/List")) (by decide) (by decide)))).other W14 (Or.inr (slot_ne (Or.inl (hw _ (List.mem_of_getElem? (i := 77) rfl))) (Or.inl (hw _ (List.mem_of_getElem? (i := 64) rfl))) (by decide) (t := .long) (t' := .boolean) (by decide) (by decide)))).ext E17).keep Kq21 (ninS (Nat.ne_of_lt (Nat.lt_of_lt_of_le f16.lt (Nat.le_of_eq g17.symm))) nin0)).other W25 (Or.inr (slot_ne (Or.inl (hw _ (List.mem_of_getElem? (i := 77) rfl))) (Or.inr (hw _ (List.mem_of_getElem? (i := 66) rfl))) (by decide) (t := .long) (t' := (.object "java/util/List")) (by decide) (by decide)))).other W30 (Or.inr (slot_ne (Or.inl (hw _ (List.mem_of_getElem? (i := 77) rfl))) (Or.inr (hw _ (List.mem_of_getElem? (i := 68) rfl))) (by decide) (t := .long) (t' := .int) (by decide) (by decide)))).other W35 (Or.inr (slot_ne (Or.inl (hw _ (List.mem_of_getElem? (i := 77) rfl))) (Or.inr (hw _ (List.mem_of_getElem? (i := 70) rfl))) (by decide) (t := .long) (t' := .int) (by decide) (by decide))))
  have f44 := (((((((((Fa1_m_nBatchLength.ext E2).keep Kq5 (ninS (Nat.ne_of_lt (Nat.lt_of_lt_of_le E0.lt (Nat.le_of_eq g2.symm))) nin0)).other W9 (Or.inr (slot_ne (Or.inl (hw _ (List.mem_of_getElem? (i := 137) rfl))) (Or.inr (hw _ (List.mem_of_getElem? (i := 62) rfl))) (by decide) (t := .long) (t' := (.object "java/util/List")) (by decide) (by decide)))).other W14 (Or.inr (slot_ne (Or.inl (hw _ (List.mem_of_getElem? (i := 137) rfl))) (Or.inl (hw _ (List.mem_of_getElem? (i := 64) rfl))) (by decide) (t := .long) (t' := .boolean) (by decide) (by decide)))).ext E17).keep Kq21 (ninS (Nat.ne_of_lt (Nat.lt_of_lt_of_le f16.lt (Nat.le_of_eq g17.symm))) nin0)).other W25 (Or.inr (slot_ne (Or.inl (hw _ (List.mem_of_getElem? (i := 137) rfl))) (Or.inr (hw _ (List.mem_of_getElem? (i := 66) rfl))) (by decide) (t := .long) (t' := (.object "java/util/List")) (by decide) (by decide)))).other W30 (Or.inr (slot_ne (Or.inl (hw _ (List.mem_of_getElem? (i := 137) rfl))) (Or.inr (hw _ (List.mem_of_getElem? (i := 68) rfl))) (by decide) (t := .long) (t' := .int) (by decide) (by decide)))).other W35 (Or.inr (slot_ne (Or.inl (hw _ (List.mem_of_getElem? (i := 137) rfl))) (Or.inr (hw _ (List.mem_of_getElem? (i := 70) rfl))) (by decide) (t := .long) (t' := .int) (by decide) (by decide))))
  have f45 := (((((((El5.wr W9).wr W14).ext E17).keep Kq21).wr W25).wr W30).wr W35)
  have f46 := (((((((Ml5.other W9 (Or.inl (Ne.symm (Nat.ne_of_lt (Nat.lt_of_lt_of_le E0.lt (Nat.le_of_eq g2.symm)))))).other W14 (Or.inl (Ne.symm (Nat.ne_of_lt (Nat.lt_of_lt_of_le E0.lt (Nat.le_of_eq g2.symm)))))).ext E17).keep Kq21 (ninS (Nat.ne_of_lt (Nat.lt_of_lt_of_le ((El5.wr W9).wr W14).lt (Nat.le_of_eq g17.symm))) nin0)).other W25 (Or.inl (Ne.symm (Nat.ne_of_lt (Nat.lt_of_lt_of_le E0.lt (Nat.le_of_eq g2.symm)))))).other W30 (Or.inl (Ne.symm (Nat.ne_of_lt (Nat.lt_of_lt_of_le E0.lt (Nat.le_of_eq g2.symm)))))).other W35 (Or.inl (Ne.symm (Nat.ne_of_lt (Nat.lt_of_lt_of_le E0.lt (Nat.le_of_eq g2.symm))))))
  have f47 := (((((((Dl5.other W9 (Or.inl (Ne.symm (Nat.ne_of_lt (Nat.lt_of_lt_of_le E0.lt (Nat.le_of_eq g2.symm)))))).other W14 (Or.inl (Ne.symm (Nat.ne_of_lt (Nat.lt_of_lt_of_le E0.lt (Nat.le_of_eq g2.symm)))))).ext E17).keep Kq21 (ninS (Nat.ne_of_lt (Nat.lt_of_lt_of_le ((El5.wr W9).wr W14).lt (Nat.le_of_eq g17.symm))) nin0)).other W25 (Or.inl (Ne.symm (Nat.ne_of_lt (Nat.lt_of_lt_of_le E0.lt (Nat.le_of_eq g2.symm)))))).other W30 (Or.inl (Ne.symm (Nat.ne_of_lt (Nat.lt_of_lt_of_le E0.lt (Nat.le_of_eq g2.symm)))))).other W35 (Or.inl (Ne.symm (Nat.ne_of_lt (Nat.lt_of_lt_of_le E0.lt (Nat.le_of_eq g2.symm))))))
  have f48 := (((((((Sl5.other W9 (Or.inl (Ne.symm (Nat.ne_of_lt (Nat.lt_of_lt_of_le E0.lt (Nat.le_of_eq g2.symm)))))).other W14 (Or.inl (Ne.symm (Nat.ne_of_lt (Nat.lt_of_lt_of_le E0.lt (Nat.le_of_eq g2.symm)))))).ext E17).keep Kq21 (ninS (Nat.ne_of_lt (Nat.lt_of_lt_of_le ((El5.wr W9).wr W14).lt (Nat.le_of_eq g17.symm))) nin0)).other W25 (Or.inl (Ne.symm (Nat.ne_of_lt (Nat.lt_of_lt_of_le E0.lt (Nat.le_of_eq g2.symm)))))).other W30 (Or.inl (Ne.symm (Nat.ne_of_lt (Nat.lt_of_lt_of_le E0.lt (Nat.le_of_eq g2.symm)))))).other W35 (Or.inl (Ne.symm (Nat.ne_of_lt (Nat.lt_of_lt_of_le E0.lt (Nat.le_of_eq g2.symm))))))
  have f49 := (((El21.wr W25).wr W30).wr W35)
  have f50 := (((Ml21.other W25 (Or.inl (Ne.symm (Nat.ne_of_lt (Nat.lt_of_lt_of_le f16.lt (Nat.le_of_eq g17.symm)))))).other W30 (Or.inl (Ne.symm (Nat.ne_of_lt (Nat.lt_of_lt_of_le f16.lt (Nat.le_of_eq g17.symm)))))).other W35 (Or.inl (Ne.symm (Nat.ne_of_lt (Nat.lt_of_lt_of_le f16.lt (Nat.le_of_eq g17.symm))))))
  have f51 := (((Dl21.other W25 (Or.inl (Ne.symm (Nat.ne_of_lt (Nat.lt_of_lt_of_le f16.lt (Nat.le_of_eq g17.symm)))))).other W30 (Or.inl (Ne.symm (Nat.ne_of_lt (Nat.lt_of_lt_of_le f16.lt (Nat.le_of_eq g17.symm)))))).other W35 (Or.inl (Ne.symm (Nat.ne_of_lt (Nat.lt_of_lt_of_le f16.lt (Nat.le_of_eq g17.symm))))))
  have f52 := (((Sl21.other W25 (Or.inl (Ne.symm (Nat.ne_of_lt (Nat.lt_of_lt_of_le f16.lt (Nat.le_of_eq g17.symm)))))).other W30 (Or.inl (Ne.symm (Nat.ne_of_lt (Nat.lt_of_lt_of_le f16.lt (Nat.le_of_eq g17.symm)))))).other W35 (Or.inl (Ne.symm (Nat.ne_of_lt (Nat.lt_of_lt_of_le f16.lt (Nat.le_of_eq g17.symm))))))
  exact own_ret X35 hx hlocks hret (hb hby own_d_prog_40_method_2_code_41) (by decide) (by decide) ⟨rfl, N35, by rw [e35]; exact ⟨K36, b2, b17, g_b2, g_b17, (Nat.ne_of_lt (Nat.lt_of_lt_of_le ((El5.wr W9).wr W14).lt (Nat.le_of_eq g17.symm))), f38, f39, f40, f41, f42, f43, f44, ⟨f45, f46, f47, f48⟩, ⟨f49, f50, f51, f52⟩⟩⟩
set_option maxRecDepth 65536 in
set_option maxHeartbeats 40000000 in
theorem own_ise (l : Launch) (Z : State) (a0 : Array Value) (hw : ∀ d ∈ tables_1, d.before a0 Z = true) (a1 : Addr) (cn : Int64) (h0 : Heap) (n0 : Nat) (F1 : Fld Z h0 a1 "com/example/ledgerleaf/ledgerleaf/Findings" "m_nCount" "J" (.long cn)) :
    own_Met l (⟨"com/example/ledgerleaf/ledgerleaf/Findings", "isEmpty", "()Z"⟩ : MethodName) prog_40_method_5_code 1 (some .boolean) ({ frames := 0, cells := 0, slots := 0, locals := 0 } : Room) Z #[(.ref a1)] h0 (fun v h L => v = some (.int (if (lcmpW cn (0 : Int64)) = (0 : Int32) then 1 else 0)) ∧ Fr n0 L ∧ h = h0) := by
  refine own_met (plainFor_of_name own_pn_com_example_ledgerleaf_ledgerleaf_Findings) ?_
  intro p e s m below meth c T0 hx hby hml hZ hown hnm hret hlocks X0 e0 hh0
  have ef : entryFrame m #[(.ref a1)] 1 = mkF m 0 #[.val (.ref a1)] [] := by first | (simp [entryFrame, mkF, argsToLocals, Value.category]; done) | rfl
  refine own_entry ef ?_
  have N0 := Fr.nil n0
  refine own_aloadN X0 hx (hb hby own_d_prog_40_method_5_code_0) rfl rfl rfl ?_
  refine own_getF X0 hx hZ hown (host := "") (Or.inl (hw _ (List.mem_of_getElem? (i := 76) rfl))) Via.refl e0 F1 (hb hby own_d_prog_40_method_5_code_1) rfl ?_
  intro T1 X1 e1
  refine own_lconst X1 hx (0 : Int64) (hb hby own_d_prog_40_method_5_code_4) (by decide) rfl ?_
  refine own_lcmp X1 hx (hb hby own_d_prog_40_method_5_code_5) rfl ?_
  refine own_if_ne X1 hx (hb hby own_d_prog_40_method_5_code_6) (by decide) rfl rfl (fun hc6_2 => ?_) (fun hc6_2 => ?_)
  · refine own_iconst X1 hx (0 : Int32) (hb hby own_d_prog_40_method_5_code_13) (by decide) rfl ?_
    exact own_retN X1 hx hlocks hret (by simp) (hb hby own_d_prog_40_method_5_code_14) (by decide) (by decide) (by decide) ⟨congrArg (fun q => some (Value.int q)) (by simp only [if_neg hc6_2]), N0, e1⟩
  · refine own_iconst X1 hx (1 : Int32) (hb hby own_d_prog_40_method_5_code_9) (by decide) rfl ?_
    refine own_goto X1 hx (hb hby own_d_prog_40_method_5_code_10) (by decide) rfl ?_
    exact own_retN X1 hx hlocks hret (by simp) (hb hby own_d_prog_40_method_5_code_14) (by decide) (by decide) (by decide) ⟨congrArg (fun q => some (Value.int q)) (by simp only [if_pos hc6_2]), N0, e1⟩
set_option maxRecDepth 65536 in
set_option maxHeartbeats 40000000 in
theorem own_fsz (l : Launch) (Z : State) (a0 : Array Value) (hw : ∀ d ∈ tables_1, d.before a0 Z = true) (a1 : Addr) (cn : Int64) (h0 : Heap) (n0 : Nat) (F1 : Fld Z h0 a1 "com/example/ledgerleaf/ledgerleaf/Findings" "m_nCount" "J" (.long cn)) :
    own_Met l (⟨"com/example/ledgerleaf/ledgerleaf/Findings", "size", "()J"⟩ : MethodName) prog_40_method_4_code 1 (some .long) ({ frames := 0, cells := 0, slots := 0, locals := 0 } : Room) Z #[(.ref a1)] h0 (fun v h L => v = some (.long cn) ∧ Fr n0 L ∧ h = h0) := by
  refine own_met (plainFor_of_name own_pn_com_example_ledgerleaf_ledgerleaf_Findings) ?_
  intro p e s m below meth c T0 hx hby hml hZ hown hnm hret hlocks X0 e0 hh0
  have ef : entryFrame m #[(.ref a1)] 1 = mkF m 0 #[.val (.ref a1)] [] := by first | (simp [entryFrame, mkF, argsToLocals, Value.category]; done) | rfl
  refine own_entry ef ?_
  have N0 := Fr.nil n0
  refine own_aloadN X0 hx (hb hby own_d_prog_40_method_4_code_0) rfl rfl rfl ?_
  refine own_getF X0 hx hZ hown (host := "") (Or.inl (hw _ (List.mem_of_getElem? (i := 76) rfl))) Via.refl e0 F1 (hb hby own_d_prog_40_method_4_code_1) rfl ?_
  intro T1 X1 e1
  exact own_retJ X1 hx hlocks hret (hb hby own_d_prog_40_method_4_code_4) (by decide) (by decide) ⟨rfl, N0, e1⟩
set_option maxRecDepth 65536 in
set_option maxHeartbeats 40000000 in
theorem own_fadd_0 (l : Launch) (Z : State) (a0 : Array Value) (hw : ∀ d ∈ tables_1, d.before a0 Z = true) (a1 el1 lb lr s1 de  : Addr) (kd  : ClassId) (mc ch zc : Int32) (h0 : Heap) (n0 : Nat) (O0 : Old Z n0 h0) (SC : Sta Z Z.heap "java/lang/String" "COMPACT_STRINGS" "Z" (.int zc)) (hzc : ¬ zc = 0) (SD : Sta Z Z.heap "java/util/ArrayList" "DEFAULTCAPACITY_EMPTY_ELEMENTDATA" "[Ljava/lang/Object;" (.ref de)) (VD : Arv Z Z.heap de kd (.object "java/lang/Object") (0 : Int32) [] .null) (g_a1 : n0 ≤ a1) (g_lb : n0 ≤ lb) (FF : Exa Z h0 a1 "com/example/ledgerleaf/ledgerleaf/Findings" ∧ Fld Z h0 a1 "com/example/ledgerleaf/ledgerleaf/Findings" "m_aBatch" "Ljava/util/List;" (.ref lb) ∧ Fld Z h0 a1 "com/example/ledgerleaf/ledgerleaf/Findings" "m_aRuns" "Ljava/util/List;" (.ref lr) ∧ Fld Z h0 a1 "com/example/ledgerleaf/ledgerleaf/Findings" "m_nBatch" "I" (.int (1000 : Int32)) ∧ Fld Z h0 a1 "com/example/ledgerleaf/ledgerleaf/Findings" "m_bSorted" "Z" (.int (1 : Int32)) ∧ Fld Z h0 a1 "com/example/ledgerleaf/ledgerleaf/Findings" "m_nCount" "J" (.long (0 : Int64)) ∧ Fld Z h0 a1 "com/example/ledgerleaf/ledgerleaf/Findings" "m_nBatchLength" "J" (.long (0 : Int64))) (Ee : Exa Z h0 el1 "com/example/ledgerleaf/ledgerleaf/Finding") (Fm : Fld Z h0 el1 "com/example/ledgerleaf/ledgerleaf/Finding" "message" "Ljava/lang/String;" (.ref s1)) (S1 : own_Str Z h0 s1 [ch]) (L0 : own_AL Z h0 lb de mc 0) :
    own_Met l (⟨"com/example/ledgerleaf/ledgerleaf/Findings", "add", "(Lcom/example/ledgerleaf/ledgerleaf/Finding;)V"⟩ : MethodName) prog_40_method_3_code 2 none ({ frames := 5, cells := 1, slots := 10, locals := 69 } : Room) Z #[(.ref a1), (.ref el1)] h0 (fun v h L => v = none ∧ Fr n0 L ∧ Keep h0 h [a1, lb] ∧ ∃ (b : Addr) (k : ClassId), n0 ≤ b ∧ h0.size ≤ b ∧ (Exa Z h a1 "com/example/ledgerleaf/ledgerleaf/Findings" ∧ Fld Z h a1 "com/example/ledgerleaf/ledgerleaf/Findings" "m_aBatch" "Ljava/util/List;" (.ref lb) ∧ Fld Z h a1 "com/example/ledgerleaf/ledgerleaf/Findings" "m_aRuns" "Ljava/util/List;" (.ref lr) ∧ Fld Z h a1 "com/example/ledgerleaf/ledgerleaf/Findings" "m_nBatch" "I" (.int (1000 : Int32)) ∧ Fld Z h a1 "com/example/ledgerleaf/ledgerleaf/Findings" "m_bSorted" "Z" (.int (0 : Int32)) ∧ Fld Z h a1 "com/example/ledgerleaf/ledgerleaf/Findings" "m_nCount" "J" (.long (1 : Int64)) ∧ Fld Z h a1 "com/example/ledgerleaf/ledgerleaf/Findings" "m_nBatchLength" "J" (.long (1 : Int64))) ∧ own_AL Z h lb b (mc + (1 : Int32)) 1 ∧ Arv Z h b k (.object "java/lang/Object") (10 : Int32) [(.ref el1), .null, .null, .null, .null, .null, .null, .null, .null, .null] .null ∧ Ovr Z k "java/lang/Object") := by
  refine own_met (plainFor_of_name own_pn_com_example_ledgerleaf_ledgerleaf_Findings) ?_
  intro p e s m below meth c T0 hx hby hml hZ hown hnm hret hlocks X0 e0 hh0
  have ef : entryFrame m #[(.ref a1), (.ref el1)] 2 = mkF m 0 #[.val (.ref a1), .val (.ref el1)] [] := by first | (simp [entryFrame, mkF, argsToLocals, Value.category]; done) | rfl
  refine own_entry ef ?_
  have N0 := Fr.nil n0
  obtain ⟨Ef0, Bf0, Rf0, Nf0, Sf0, Cf0, Lf0⟩ := FF
  have K0 := Keep.refl h0 [a1, lb]
  obtain ⟨El0, Ml0, Dl0, Sl0⟩ := L0
  obtain ⟨t1, kb1, cd1, Nn1, vs1, Es1, Vs1, Cs1, Ks1, cod1, hbd1, hle1⟩ := S1
  refine own_aloadN X0 hx (hb hby own_d_prog_40_method_3_code_0) rfl rfl rfl ?_
  refine own_getF X0 hx hZ hown (host := "") (Or.inl (hw _ (List.mem_of_getElem? (i := 61) rfl))) Via.refl e0 Bf0 (hb hby own_d_prog_40_method_3_code_1) rfl ?_
  intro T1 X1 e1
  refine own_aloadN X1 hx (hb hby own_d_prog_40_method_3_code_4) rfl rfl rfl ?_
  refine own_iface X1 hx hZ (xi := (⟨"java/util/List", "add", "(Ljava/lang/Object;)Z"⟩ : MethodName)) (y := (⟨"java/util/ArrayList", "add", "(Ljava/lang/Object;)Z"⟩ : MethodName)) hown (hw _ (List.mem_of_getElem? (i := 159) rfl)) (hw _ (List.mem_of_getElem? (i := 160) rfl)) (mvT hZ (hw _ (List.mem_of_getElem? (i := 161) rfl))) (hw _ (List.mem_of_getElem? (i := 162) rfl)) (hw _ (List.mem_of_getElem? (i := 163) rfl)) (hw _ (List.mem_of_getElem? (i := 164) rfl)) (hw _ (List.mem_of_getElem? (i := 165) rfl)) (hw _ (List.mem_of_getElem? (i := 95) rfl)) (hw _ (List.mem_of_getElem? (i := 39) rfl)) (hw _ (List.mem_of_getElem? (i := 166) rfl)) (by decide) e1 (by decide) (W := 0) (by decide) (by decide) (by decide) [(.ref el1)] [] (by rw [hml]; rfl) El0 (own_addE l Z a0 hw lb el1 de kd mc h0 n0 O0 g_lb SD VD ⟨El0, Ml0, Dl0, Sl0⟩ (Ins.of_exa Ee (hw _ (List.mem_of_getElem? (i := 188) rfl)))) own_pd5 rfl rfl rfl (hb hby own_d_prog_40_method_3_code_5) rfl ?_
  intro v2 T2 L2 X2 hQ2
  obtain ⟨rfl, Nq2, Kq2, b2, k2, g_b2, sz_b2, Al2, V2, Ov2⟩ := hQ2
  have sz_b2 := Nat.le_trans K0.1 sz_b2
  have N2 := Fr.app N0 Nq2
  have K3 := K0.trans Kq2 (allS (Or.inl (List.mem_of_getElem? (i := 1) rfl)) all0)
  obtain ⟨El2, Ml2, Dl2, Sl2⟩ := Al2
  show own_Ends p e below _ (T2.setTop (mkF m 10 #[.val (.ref a1), .val (.ref el1)] [(.int (1 : Int32))]))
  refine own_pop X2 hx (hb hby own_d_prog_40_method_3_code_10) rfl rfl ?_
  refine own_aloadN X2 hx (hb hby own_d_prog_40_method_3_code_11) rfl rfl rfl ?_
  refine own_iconst X2 hx (0 : Int32) (hb hby own_d_prog_40_method_3_code_12) (by decide) rfl ?_
  have f4 := (Sf0.keep Kq2 (ninS (ne_exa Ef0 El0 (by decide)) nin0))
  have f5 := (Ef0.keep Kq2)
  refine own_putFN X2 hx hZ hown (hw _ (List.mem_of_getElem? (i := 63) rfl)) Via.refl rfl (.int (0 : Int32)) f4 f5 (Or.inl (hw _ (List.mem_of_getElem? (i := 64) rfl))) (hw _ (List.mem_of_getElem? (i := 31) rfl)) (ty := .boolean) (by decide) rfl rfl N2 g_a1 (hb hby own_d_prog_40_method_3_code_13) rfl ?_
  intro T6 h6 X6 e6 W6 N6
  have K7 := K3.wr W6 (Or.inl (List.mem_of_getElem? (i := 0) rfl))
  have f8 := f4.same W6
  refine own_aloadN X6 hx (hb hby own_d_prog_40_method_3_code_16) rfl rfl rfl ?_
  refine own_dup X6 hx (hb hby own_d_prog_40_method_3_code_17) rfl rfl ?_
  have f9 := ((Cf0.keep Kq2 (ninS (ne_exa Ef0 El0 (by decide)) nin0)).other W6 (Or.inr (slot_ne (Or.inl (hw _ (List.mem_of_getElem? (i := 77) rfl))) (Or.inl (hw _ (List.mem_of_getElem? (i := 64) rfl))) (by decide) (t := .long) (t' := .boolean) (by decide) (by decide))))
  refine own_getF X6 hx hZ hown (host := "") (Or.inl (hw _ (List.mem_of_getElem? (i := 76) rfl))) Via.refl e6 f9 (hb hby own_d_prog_40_method_3_code_18) rfl ?_
  intro T10 X10 e10
  refine own_lconst X10 hx (1 : Int64) (hb hby own_d_prog_40_method_3_code_21) (by decide) rfl ?_
  refine own_ladd X10 hx (hb hby own_d_prog_40_method_3_code_22) rfl ?_
  rw [show ((0 : Int64) + (1 : Int64)) = (1 : Int64) from by decide]
  have f11 := (f5.wr W6)
  refine own_putF X10 hx hZ hown (host := "") (Or.inl (hw _ (List.mem_of_getElem? (i := 76) rfl))) Via.refl e10 f9 f11 (Or.inl (hw _ (List.mem_of_getElem? (i := 77) rfl))) (hw _ (List.mem_of_getElem? (i := 31) rfl)) (ty := .long) (by decide) rfl rfl N6 g_a1 (hb hby own_d_prog_40_method_3_code_23) rfl ?_
  intro T12 h12 X12 e12 W12 N12
  have K13 := K7.wr W12 (Or.inl (List.mem_of_getElem? (i := 0) rfl))
  have f14 := f9.same W12
  refine own_aloadN X12 hx (hb hby own_d_prog_40_method_3_code_26) rfl rfl rfl ?_
  refine own_dup X12 hx (hb hby own_d_prog_40_method_3_code_27) rfl rfl ?_
  have f15 := (((Lf0.keep Kq2 (ninS (ne_exa Ef0 El0 (by decide)) nin0)).other W6 (Or.inr (slot_ne (Or.inl (hw _ (List.mem_of_getElem? (i := 137) rfl))) (Or.inl (hw _ (List.mem_of_getElem? (i := 64) rfl))) (by decide) (t := .long) (t' := .boolean) (by decide) (by decide)))).other W12 (Or.inr (slot_ne (Or.inl (hw _ (List.mem_of_getElem? (i := 137) rfl))) (Or.inl (hw _ (List.mem_of_getElem? (i := 77) rfl))) (by decide) (t := .long) (t' := .long) (by decide) (by decide))))
  refine own_getF X12 hx hZ hown (host := "") (Or.inl (hw _ (List.mem_of_getElem? (i := 136) rfl))) Via.refl e12 f15 (hb hby own_d_prog_40_method_3_code_28) rfl ?_
  intro T16 X16 e16
  refine own_aloadN X16 hx (hb hby own_d_prog_40_method_3_code_31) rfl rfl rfl ?_
  have f17 := (((Fm.keep Kq2 (ninS (ne_exa Ee El0 (by decide)) nin0)).other W6 (Or.inl (ne_exa Ee Ef0 (by decide)))).other W12 (Or.inl (ne_exa Ee Ef0 (by decide))))
  have f19 := (((Ee.keep Kq2).wr W6).wr W12)
  refine own_virtual X16 hx hZ (y := (⟨"com/example/ledgerleaf/ledgerleaf/Finding", "message", "()Ljava/lang/String;"⟩ : MethodName)) (z := (⟨"com/example/ledgerleaf/ledgerleaf/Finding", "message", "()Ljava/lang/String;"⟩ : MethodName)) hown (hw _ (List.mem_of_getElem? (i := 189) rfl)) (hw _ (List.mem_of_getElem? (i := 190) rfl)) (notFace_of_selects (args := #[]) (mvT hZ (hw _ (List.mem_of_getElem? (i := 192) rfl)))) (hw _ (List.mem_of_getElem? (i := 192) rfl)) (hw _ (List.mem_of_getElem? (i := 191) rfl)) (hw _ (List.mem_of_getElem? (i := 140) rfl)) (hw _ (List.mem_of_getElem? (i := 193) rfl)) (by decide) e16 (by decide) (W := 3) (by decide) (by decide) (by decide) [] [(.long (0 : Int64)), (.ref a1)] (by rw [hml]; rfl) f19 (own_msg l Z a0 hw el1 s1 h12 n0 f17) own_pd6 rfl rfl rfl (hb hby own_d_prog_40_method_3_code_32) rfl ?_
  intro v18 T18 L18 X18 hQ18
  obtain ⟨rfl, Nq18, hh18⟩ := hQ18
  have N18 := Fr.app N12 Nq18
  show own_Ends p e below _ (T18.setTop (mkF m 35 #[.val (.ref a1), .val (.ref el1)] [(.ref s1), (.long (0 : Int64)), (.ref a1)]))
  have f20 := (((Es1.keep Kq2).wr W6).wr W12)
  have f21 := (((Vs1.keep Kq2 (ninS (ne_exa Es1 El0 (by decide)) nin0)).other W6 (Or.inl (ne_exa Es1 Ef0 (by decide)))).other W12 (Or.inl (ne_exa Es1 Ef0 (by decide))))
  have f22 := (((Cs1.keep Kq2 (ninS (ne_exa Es1 El0 (by decide)) nin0)).other W6 (Or.inl (ne_exa Es1 Ef0 (by decide)))).other W12 (Or.inl (ne_exa Es1 Ef0 (by decide))))
  have f23 := (((Ks1.keep Kq2 (ninS (Ne.symm (Exa.neArv El0 Ks1 (hw _ (List.mem_of_getElem? (i := 38) rfl)))) nin0)).other W6 (Ne.symm (Exa.neArv Ef0 Ks1 (hw _ (List.mem_of_getElem? (i := 31) rfl))))).other W12 (Ne.symm (Exa.neArv Ef0 Ks1 (hw _ (List.mem_of_getElem? (i := 31) rfl)))))
  have f24 := (((O0.keep Kq2 (allS g_lb all0)).wr W6 g_a1).wr W12 g_a1)
  refine own_virtualB X18 hx hZ (y := (⟨"java/lang/String", "length", "()I"⟩ : MethodName)) (z := (⟨"java/lang/String", "length", "()I"⟩ : MethodName)) hown (hw _ (List.mem_of_getElem? (i := 194) rfl)) (hw _ (List.mem_of_getElem? (i := 195) rfl)) (notFace_of_selects (args := #[]) (mvT hZ (hw _ (List.mem_of_getElem? (i := 197) rfl)))) (hw _ (List.mem_of_getElem? (i := 197) rfl)) (hw _ (List.mem_of_getElem? (i := 196) rfl)) (by decide) hh18 (W := 3) (ce := 0) (sl := 0) (by decide) (by decide) [] [(.long (0 : Int64)), (.ref a1)] (by rw [hml]; rfl) f20 (fun v h' L => v = some (.int (Int32.ofNat (([ch] : List Int32)).length)) ∧ L = [] ∧ h' = h12) (StrChars.Road.lenW (W := 3) hZ (own_hln hw) (kI := 4) (hw _ (List.mem_of_getElem? (i := 2) rfl)) f20 f21 f22 f23 cod1 hbd1 (SC.ext f24.2) hzc hle1 (by decide) (by decide)) own_pd7 rfl rfl rfl (hb hby own_d_prog_40_method_3_code_35) rfl ?_
  intro v25 T25 L25 X25 hQ25
  obtain ⟨rfl, rfl, hh25⟩ := hQ25
  have N25 := Fr.app N18 (Fr.nil n0)
  rw [show (Int32.ofNat (([ch] : List Int32)).length) = (1 : Int32) from rfl]
  show own_Ends p e below _ (T25.setTop (mkF m 38 #[.val (.ref a1), .val (.ref el1)] [(.int (1 : Int32)), (.long (0 : Int64)), (.ref a1)]))
  refine own_i2l X25 hx (hb hby own_d_prog_40_method_3_code_38) rfl ?_
  rw [show ((1 : Int32).toInt64) = (1 : Int64) from by decide]
  refine own_ladd X25 hx (hb hby own_d_prog_40_method_3_code_39) rfl ?_
  rw [show ((0 : Int64) + (1 : Int64)) = (1 : Int64) from by decide]
  have f26 := (f11.wr W12)
  refine own_putF X25 hx hZ hown (host := "") (Or.inl (hw _ (List.mem_of_getElem? (i := 136) rfl))) Via.refl hh25 f15 f26 (Or.inl (hw _ (List.mem_of_getElem? (i := 137) rfl))) (hw _ (List.mem_of_getElem? (i := 31) rfl)) (ty := .long) (by decide) rfl rfl N25 g_a1 (hb hby own_d_prog_40_method_3_code_40) rfl ?_
  intro T27 h27 X27 e27 W27 N27
  have K28 := K13.wr W27 (Or.inl (List.mem_of_getElem? (i := 0) rfl))
  have f29 := f15.same W27
  refine own_aloadN X27 hx (hb hby own_d_prog_40_method_3_code_43) rfl rfl rfl ?_
  have f30 := ((((Bf0.keep Kq2 (ninS (ne_exa Ef0 El0 (by decide)) nin0)).other W6 (Or.inr (slot_ne (Or.inr (hw _ (List.mem_of_getElem? (i := 62) rfl))) (Or.inl (hw _ (List.mem_of_getElem? (i := 64) rfl))) (by decide) (t := (.object "java/util/List")) (t' := .boolean) (by decide) (by decide)))).other W12 (Or.inr (slot_ne (Or.inr (hw _ (List.mem_of_getElem? (i := 62) rfl))) (Or.inl (hw _ (List.mem_of_getElem? (i := 77) rfl))) (by decide) (t := (.object "java/util/List")) (t' := .long) (by decide) (by decide)))).other W27 (Or.inr (slot_ne (Or.inr (hw _ (List.mem_of_getElem? (i := 62) rfl))) (Or.inl (hw _ (List.mem_of_getElem? (i := 137) rfl))) (by decide) (t := (.object "java/util/List")) (t' := .long) (by decide) (by decide))))
  refine own_getF X27 hx hZ hown (host := "") (Or.inl (hw _ (List.mem_of_getElem? (i := 61) rfl))) Via.refl e27 f30 (hb hby own_d_prog_40_method_3_code_44) rfl ?_
  intro T31 X31 e31
  have f32 := (((Sl2.other W6 (Or.inl (ne_exa El0 Ef0 (by decide)))).other W12 (Or.inl (ne_exa El0 Ef0 (by decide)))).other W27 (Or.inl (ne_exa El0 Ef0 (by decide))))
  have f34 := (((El2.wr W6).wr W12).wr W27)
  refine own_iface X31 hx hZ (xi := (⟨"java/util/List", "size", "()I"⟩ : MethodName)) (y := (⟨"java/util/ArrayList", "size", "()I"⟩ : MethodName)) hown (hw _ (List.mem_of_getElem? (i := 204) rfl)) (hw _ (List.mem_of_getElem? (i := 205) rfl)) (mvT hZ (hw _ (List.mem_of_getElem? (i := 206) rfl))) (hw _ (List.mem_of_getElem? (i := 207) rfl)) (hw _ (List.mem_of_getElem? (i := 208) rfl)) (hw _ (List.mem_of_getElem? (i := 209) rfl)) (hw _ (List.mem_of_getElem? (i := 210) rfl)) (hw _ (List.mem_of_getElem? (i := 95) rfl)) (hw _ (List.mem_of_getElem? (i := 39) rfl)) (hw _ (List.mem_of_getElem? (i := 211) rfl)) (by decide) e31 (by decide) (W := 0) (by decide) (by decide) (by decide) [] [] (by rw [hml]; rfl) f34 (own_lsz l Z a0 hw lb (1 : Int32) h27 n0 f32) own_pd7 rfl rfl rfl (hb hby own_d_prog_40_method_3_code_47) rfl ?_
  intro v33 T33 L33 X33 hQ33
  obtain ⟨rfl, Nq33, hh33⟩ := hQ33
  have N33 := Fr.app N27 Nq33
  show own_Ends p e below _ (T33.setTop (mkF m 52 #[.val (.ref a1), .val (.ref el1)] [(.int (1 : Int32))]))
  refine own_aloadN X33 hx (hb hby own_d_prog_40_method_3_code_52) rfl rfl rfl ?_
  have f35 := ((((Nf0.keep Kq2 (ninS (ne_exa Ef0 El0 (by decide)) nin0)).other W6 (Or.inr (slot_ne (Or.inr (hw _ (List.mem_of_getElem? (i := 68) rfl))) (Or.inl (hw _ (List.mem_of_getElem? (i := 64) rfl))) (by decide) (t := .int) (t' := .boolean) (by decide) (by decide)))).other W12 (Or.inr (slot_ne (Or.inr (hw _ (List.mem_of_getElem? (i := 68) rfl))) (Or.inl (hw _ (List.mem_of_getElem? (i := 77) rfl))) (by decide) (t := .int) (t' := .long) (by decide) (by decide)))).other W27 (Or.inr (slot_ne (Or.inr (hw _ (List.mem_of_getElem? (i := 68) rfl))) (Or.inl (hw _ (List.mem_of_getElem? (i := 137) rfl))) (by decide) (t := .int) (t' := .long) (by decide) (by decide))))
  refine own_getF X33 hx hZ hown (host := "") (Or.inl (hw _ (List.mem_of_getElem? (i := 67) rfl))) Via.refl hh33 f35 (hb hby own_d_prog_40_method_3_code_53) rfl ?_
  intro T36 X36 e36
  refine own_icmpF X36 hx (hb hby own_d_prog_40_method_3_code_56) rfl (by decide) ?_
  refine own_aloadN X36 hx (hb hby own_d_prog_40_method_3_code_59) rfl rfl rfl ?_
  refine own_getF X36 hx hZ hown (host := "") (Or.inl (hw _ (List.mem_of_getElem? (i := 136) rfl))) Via.refl e36 f29 (hb hby own_d_prog_40_method_3_code_60) rfl ?_
  intro T37 X37 e37
  refine own_ldcLong X37 hx hZ hown (hw _ (List.mem_of_getElem? (i := 212) rfl)) (hb hby own_d_prog_40_method_3_code_63) rfl ?_
  refine own_lcmp X37 hx (hb hby own_d_prog_40_method_3_code_66) rfl ?_
  rw [show (lcmpW (1 : Int64) (1048576 : Int64)) = (-1 : Int32) from by decide]
  refine own_ifT X37 hx (hb hby own_d_prog_40_method_3_code_67) (by decide) rfl (by decide) ?_
  have f38 := (f26.wr W27)
  have f39 := ((((Rf0.keep Kq2 (ninS (ne_exa Ef0 El0 (by decide)) nin0)).other W6 (Or.inr (slot_ne (Or.inr (hw _ (List.mem_of_getElem? (i := 66) rfl))) (Or.inl (hw _ (List.mem_of_getElem? (i := 64) rfl))) (by decide) (t := (.object "java/util/List")) (t' := .boolean) (by decide) (by decide)))).other W12 (Or.inr (slot_ne (Or.inr (hw _ (List.mem_of_getElem? (i := 66) rfl))) (Or.inl (hw _ (List.mem_of_getElem? (i := 77) rfl))) (by decide) (t := (.object "java/util/List")) (t' := .long) (by decide) (by decide)))).other W27 (Or.inr (slot_ne (Or.inr (hw _ (List.mem_of_getElem? (i := 66) rfl))) (Or.inl (hw _ (List.mem_of_getElem? (i := 137) rfl))) (by decide) (t := (.object "java/util/List")) (t' := .long) (by decide) (by decide))))
  have f40 := ((f8.other W12 (Or.inr (slot_ne (Or.inl (hw _ (List.mem_of_getElem? (i := 64) rfl))) (Or.inl (hw _ (List.mem_of_getElem? (i := 77) rfl))) (by decide) (t := .boolean) (t' := .long) (by decide) (by decide)))).other W27 (Or.inr (slot_ne (Or.inl (hw _ (List.mem_of_getElem? (i := 64) rfl))) (Or.inl (hw _ (List.mem_of_getElem? (i := 137) rfl))) (by decide) (t := .boolean) (t' := .long) (by decide) (by decide))))
  have f41 := (f14.other W27 (Or.inr (slot_ne (Or.inl (hw _ (List.mem_of_getElem? (i := 77) rfl))) (Or.inl (hw _ (List.mem_of_getElem? (i := 137) rfl))) (by decide) (t := .long) (t' := .long) (by decide) (by decide))))
  have f42 := (((Ml2.other W6 (Or.inl (ne_exa El0 Ef0 (by decide)))).other W12 (Or.inl (ne_exa El0 Ef0 (by decide)))).other W27 (Or.inl (ne_exa El0 Ef0 (by decide))))
  have f43 := (((Dl2.other W6 (Or.inl (ne_exa El0 Ef0 (by decide)))).other W12 (Or.inl (ne_exa El0 Ef0 (by decide)))).other W27 (Or.inl (ne_exa El0 Ef0 (by decide))))
  have f44 := (((V2.other W6 (Ne.symm (Exa.neArv f5 V2 (hw _ (List.mem_of_getElem? (i := 31) rfl))))).other W12 (Ne.symm (Exa.neArv f5 V2 (hw _ (List.mem_of_getElem? (i := 31) rfl))))).other W27 (Ne.symm (Exa.neArv f5 V2 (hw _ (List.mem_of_getElem? (i := 31) rfl)))))
  exact own_ret X37 hx hlocks hret (hb hby own_d_prog_40_method_3_code_74) (by decide) (by decide) ⟨rfl, N33, by rw [e37]; exact ⟨K28, b2, _, g_b2, sz_b2, ⟨f38, f30, f39, f35, f40, f41, f29⟩, ⟨f34, f42, f43, f32⟩, f44, Ov2⟩⟩
set_option maxRecDepth 65536 in
set_option maxHeartbeats 40000000 in
theorem own_fadd_1 (l : Launch) (Z : State) (a0 : Array Value) (hw : ∀ d ∈ tables_1, d.before a0 Z = true) (a1 el1 lb lr s1 de ed x0_ : Addr) (kd ke : ClassId) (mc ch zc : Int32) (h0 : Heap) (n0 : Nat) (O0 : Old Z n0 h0) (SC : Sta Z Z.heap "java/lang/String" "COMPACT_STRINGS" "Z" (.int zc)) (hzc : ¬ zc = 0) (SD : Sta Z Z.heap "java/util/ArrayList" "DEFAULTCAPACITY_EMPTY_ELEMENTDATA" "[Ljava/lang/Object;" (.ref de)) (VD : Arv Z Z.heap de kd (.object "java/lang/Object") (0 : Int32) [] .null) (g_a1 : n0 ≤ a1) (g_lb : n0 ≤ lb) (g_ed : n0 ≤ ed) (FF : Exa Z h0 a1 "com/example/ledgerleaf/ledgerleaf/Findings" ∧ Fld Z h0 a1 "com/example/ledgerleaf/ledgerleaf/Findings" "m_aBatch" "Ljava/util/List;" (.ref lb) ∧ Fld Z h0 a1 "com/example/ledgerleaf/ledgerleaf/Findings" "m_aRuns" "Ljava/util/List;" (.ref lr) ∧ Fld Z h0 a1 "com/example/ledgerleaf/ledgerleaf/Findings" "m_nBatch" "I" (.int (1000 : Int32)) ∧ Fld Z h0 a1 "com/example/ledgerleaf/ledgerleaf/Findings" "m_bSorted" "Z" (.int (0 : Int32)) ∧ Fld Z h0 a1 "com/example/ledgerleaf/ledgerleaf/Findings" "m_nCount" "J" (.long (1 : Int64)) ∧ Fld Z h0 a1 "com/example/ledgerleaf/ledgerleaf/Findings" "m_nBatchLength" "J" (.long (1 : Int64))) (Ee : Exa Z h0 el1 "com/example/ledgerleaf/ledgerleaf/Finding") (Fm : Fld Z h0 el1 "com/example/ledgerleaf/ledgerleaf/Finding" "message" "Ljava/lang/String;" (.ref s1)) (S1 : own_Str Z h0 s1 [ch]) (L0 : own_AL Z h0 lb ed mc 1) (V0 : Arv Z h0 ed ke (.object "java/lang/Object") (10 : Int32) [(.ref x0_), .null, .null, .null, .null, .null, .null, .null, .null, .null] .null) (Ov0 : Ovr Z ke "java/lang/Object") :
    own_Met l (⟨"com/example/ledgerleaf/ledgerleaf/Findings", "add", "(Lcom/example/ledgerleaf/ledgerleaf/Finding;)V"⟩ : MethodName) prog_40_method_3_code 2 none ({ frames := 2, cells := 0, slots := 0, locals := 28 } : Room) Z #[(.ref a1), (.ref el1)] h0 (fun v h L => v = none ∧ Fr n0 L ∧ Keep h0 h [a1, lb, ed] ∧ (Exa Z h a1 "com/example/ledgerleaf/ledgerleaf/Findings" ∧ Fld Z h a1 "com/example/ledgerleaf/ledgerleaf/Findings" "m_aBatch" "Ljava/util/List;" (.ref lb) ∧ Fld Z h a1 "com/example/ledgerleaf/ledgerleaf/Findings" "m_aRuns" "Ljava/util/List;" (.ref lr) ∧ Fld Z h a1 "com/example/ledgerleaf/ledgerleaf/Findings" "m_nBatch" "I" (.int (1000 : Int32)) ∧ Fld Z h a1 "com/example/ledgerleaf/ledgerleaf/Findings" "m_bSorted" "Z" (.int (0 : Int32)) ∧ Fld Z h a1 "com/example/ledgerleaf/ledgerleaf/Findings" "m_nCount" "J" (.long (2 : Int64)) ∧ Fld Z h a1 "com/example/ledgerleaf/ledgerleaf/Findings" "m_nBatchLength" "J" (.long (2 : Int64))) ∧ own_AL Z h lb ed (mc + (1 : Int32)) 2 ∧ Arv Z h ed ke (.object "java/lang/Object") (10 : Int32) [(.ref x0_), (.ref el1), .null, .null, .null, .null, .null, .null, .null, .null] .null) := by
  refine own_met (plainFor_of_name own_pn_com_example_ledgerleaf_ledgerleaf_Findings) ?_
  intro p e s m below meth c T0 hx hby hml hZ hown hnm hret hlocks X0 e0 hh0
  have ef : entryFrame m #[(.ref a1), (.ref el1)] 2 = mkF m 0 #[.val (.ref a1), .val (.ref el1)] [] := by first | (simp [entryFrame, mkF, argsToLocals, Value.category]; done) | rfl
  refine own_entry ef ?_
  have N0 := Fr.nil n0
  obtain ⟨Ef0, Bf0, Rf0, Nf0, Sf0, Cf0, Lf0⟩ := FF
  have K0 := Keep.refl h0 [a1, lb, ed]
  obtain ⟨El0, Ml0, Dl0, Sl0⟩ := L0
  obtain ⟨t1, kb1, cd1, Nn1, vs1, Es1, Vs1, Cs1, Ks1, cod1, hbd1, hle1⟩ := S1
  refine own_aloadN X0 hx (hb hby own_d_prog_40_method_3_code_0) rfl rfl rfl ?_
  refine own_getF X0 hx hZ hown (host := "") (Or.inl (hw _ (List.mem_of_getElem? (i := 61) rfl))) Via.refl e0 Bf0 (hb hby own_d_prog_40_method_3_code_1) rfl ?_
  intro T1 X1 e1
  refine own_aloadN X1 hx (hb hby own_d_prog_40_method_3_code_4) rfl rfl rfl ?_
  refine own_iface X1 hx hZ (xi := (⟨"java/util/List", "add", "(Ljava/lang/Object;)Z"⟩ : MethodName)) (y := (⟨"java/util/ArrayList", "add", "(Ljava/lang/Object;)Z"⟩ : MethodName)) hown (hw _ (List.mem_of_getElem? (i := 159) rfl)) (hw _ (List.mem_of_getElem? (i := 160) rfl)) (mvT hZ (hw _ (List.mem_of_getElem? (i := 161) rfl))) (hw _ (List.mem_of_getElem? (i := 162) rfl)) (hw _ (List.mem_of_getElem? (i := 163) rfl)) (hw _ (List.mem_of_getElem? (i := 164) rfl)) (hw _ (List.mem_of_getElem? (i := 165) rfl)) (hw _ (List.mem_of_getElem? (i := 95) rfl)) (hw _ (List.mem_of_getElem? (i := 39) rfl)) (hw _ (List.mem_of_getElem? (i := 166) rfl)) (by decide) e1 (by decide) (W := 0) (by decide) (by decide) (by decide) [(.ref el1)] [] (by rw [hml]; rfl) El0 (own_add_1 l Z a0 hw lb el1 ed x0_ ke mc h0 n0 g_lb g_ed ⟨El0, Ml0, Dl0, Sl0⟩ V0 Ov0 (Ins.of_exa Ee (hw _ (List.mem_of_getElem? (i := 188) rfl)))) own_pd5 rfl rfl rfl (hb hby own_d_prog_40_method_3_code_5) rfl ?_
  intro v2 T2 L2 X2 hQ2
  obtain ⟨rfl, Nq2, Kq2, Al2, V2⟩ := hQ2
  have N2 := Fr.app N0 Nq2
  have K3 := K0.trans Kq2 (allS (Or.inl (List.mem_of_getElem? (i := 1) rfl)) (allS (Or.inl (List.mem_of_getElem? (i := 2) rfl)) all0))
  obtain ⟨El2, Ml2, Dl2, Sl2⟩ := Al2
  show own_Ends p e below _ (T2.setTop (mkF m 10 #[.val (.ref a1), .val (.ref el1)] [(.int (1 : Int32))]))
  refine own_pop X2 hx (hb hby own_d_prog_40_method_3_code_10) rfl rfl ?_
  refine own_aloadN X2 hx (hb hby own_d_prog_40_method_3_code_11) rfl rfl rfl ?_
  refine own_iconst X2 hx (0 : Int32) (hb hby own_d_prog_40_method_3_code_12) (by decide) rfl ?_
  have f4 := (Sf0.keep Kq2 (ninS (ne_exa Ef0 El0 (by decide)) (ninS (Exa.neArv Ef0 V0 (hw _ (List.mem_of_getElem? (i := 31) rfl))) nin0)))
  have f5 := (Ef0.keep Kq2)
  refine own_putFN X2 hx hZ hown (hw _ (List.mem_of_getElem? (i := 63) rfl)) Via.refl rfl (.int (0 : Int32)) f4 f5 (Or.inl (hw _ (List.mem_of_getElem? (i := 64) rfl))) (hw _ (List.mem_of_getElem? (i := 31) rfl)) (ty := .boolean) (by decide) rfl rfl N2 g_a1 (hb hby own_d_prog_40_method_3_code_13) rfl ?_
  intro T6 h6 X6 e6 W6 N6
  have K7 := K3.wr W6 (Or.inl (List.mem_of_getElem? (i := 0) rfl))
  have f8 := f4.same W6
  refine own_aloadN X6 hx (hb hby own_d_prog_40_method_3_code_16) rfl rfl rfl ?_
  refine own_dup X6 hx (hb hby own_d_prog_40_method_3_code_17) rfl rfl ?_
  have f9 := ((Cf0.keep Kq2 (ninS (ne_exa Ef0 El0 (by decide)) (ninS (Exa.neArv Ef0 V0 (hw _ (List.mem_of_getElem? (i := 31) rfl))) nin0))).other W6 (Or.inr (slot_ne (Or.inl (hw _ (List.mem_of_getElem? (i := 77) rfl))) (Or.inl (hw _ (List.mem_of_getElem? (i := 64) rfl))) (by decide) (t := .long) (t' := .boolean) (by decide) (by decide))))
  refine own_getF X6 hx hZ hown (host := "") (Or.inl (hw _ (List.mem_of_getElem? (i := 76) rfl))) Via.refl e6 f9 (hb hby own_d_prog_40_method_3_code_18) rfl ?_
  intro T10 X10 e10
  refine own_lconst X10 hx (1 : Int64) (hb hby own_d_prog_40_method_3_code_21) (by decide) rfl ?_
  refine own_ladd X10 hx (hb hby own_d_prog_40_method_3_code_22) rfl ?_
  rw [show ((1 : Int64) + (1 : Int64)) = (2 : Int64) from by decide]
  have f11 := (f5.wr W6)
  refine own_putF X10 hx hZ hown (host := "") (Or.inl (hw _ (List.mem_of_getElem? (i := 76) rfl))) Via.refl e10 f9 f11 (Or.inl (hw _ (List.mem_of_getElem? (i := 77) rfl))) (hw _ (List.mem_of_getElem? (i := 31) rfl)) (ty := .long) (by decide) rfl rfl N6 g_a1 (hb hby own_d_prog_40_method_3_code_23) rfl ?_
  intro T12 h12 X12 e12 W12 N12
  have K13 := K7.wr W12 (Or.inl (List.mem_of_getElem? (i := 0) rfl))
  have f14 := f9.same W12
  refine own_aloadN X12 hx (hb hby own_d_prog_40_method_3_code_26) rfl rfl rfl ?_
  refine own_dup X12 hx (hb hby own_d_prog_40_method_3_code_27) rfl rfl ?_
  have f15 := (((Lf0.keep Kq2 (ninS (ne_exa Ef0 El0 (by decide)) (ninS (Exa.neArv Ef0 V0 (hw _ (List.mem_of_getElem? (i := 31) rfl))) nin0))).other W6 (Or.inr (slot_ne (Or.inl (hw _ (List.mem_of_getElem? (i := 137) rfl))) (Or.inl (hw _ (List.mem_of_getElem? (i := 64) rfl))) (by decide) (t := .long) (t' := .boolean) (by decide) (by decide)))).other W12 (Or.inr (slot_ne (Or.inl (hw _ (List.mem_of_getElem? (i := 137) rfl))) (Or.inl (hw _ (List.mem_of_getElem? (i := 77) rfl))) (by decide) (t := .long) (t' := .long) (by decide) (by decide))))
  refine own_getF X12 hx hZ hown (host := "") (Or.inl (hw _ (List.mem_of_getElem? (i := 136) rfl))) Via.refl e12 f15 (hb hby own_d_prog_40_method_3_code_28) rfl ?_
  intro T16 X16 e16
  refine own_aloadN X16 hx (hb hby own_d_prog_40_method_3_code_31) rfl rfl rfl ?_
  have f17 := (((Fm.keep Kq2 (ninS (ne_exa Ee El0 (by decide)) (ninS (Exa.neArv Ee V0 (hw _ (List.mem_of_getElem? (i := 139) rfl))) nin0))).other W6 (Or.inl (ne_exa Ee Ef0 (by decide)))).other W12 (Or.inl (ne_exa Ee Ef0 (by decide))))
  have f19 := (((Ee.keep Kq2).wr W6).wr W12)
  refine own_virtual X16 hx hZ (y := (⟨"com/example/ledgerleaf/ledgerleaf/Finding", "message", "()Ljava/lang/String;"⟩ : MethodName)) (z := (⟨"com/example/ledgerleaf/ledgerleaf/Finding", "message", "()Ljava/lang/String;"⟩ : MethodName)) hown (hw _ (List.mem_of_getElem? (i := 189) rfl)) (hw _ (List.mem_of_getElem? (i := 190) rfl)) (notFace_of_selects (args := #[]) (mvT hZ (hw _ (List.mem_of_getElem? (i := 192) rfl)))) (hw _ (List.mem_of_getElem? (i := 192) rfl)) (hw _ (List.mem_of_getElem? (i := 191) rfl)) (hw _ (List.mem_of_getElem? (i := 140) rfl)) (hw _ (List.mem_of_getElem? (i := 193) rfl)) (by decide) e16 (by decide) (W := 3) (by decide) (by decide) (by decide) [] [(.long (1 : Int64)), (.ref a1)] (by rw [hml]; rfl) f19 (own_msg l Z a0 hw el1 s1 h12 n0 f17) own_pd6 rfl rfl rfl (hb hby own_d_prog_40_method_3_code_32) rfl ?_
  intro v18 T18 L18 X18 hQ18
  obtain ⟨rfl, Nq18, hh18⟩ := hQ18
  have N18 := Fr.app N12 Nq18
  show own_Ends p e below _ (T18.setTop (mkF m 35 #[.val (.ref a1), .val (.ref el1)] [(.ref s1), (.long (1 : Int64)), (.ref a1)]))
  have f20 := (((Es1.keep Kq2).wr W6).wr W12)
  have f21 := (((Vs1.keep Kq2 (ninS (ne_exa Es1 El0 (by decide)) (ninS (Exa.neArv Es1 V0 (hw _ (List.mem_of_getElem? (i := 2) rfl))) nin0))).other W6 (Or.inl (ne_exa Es1 Ef0 (by decide)))).other W12 (Or.inl (ne_exa Es1 Ef0 (by decide))))
  have f22 := (((Cs1.keep Kq2 (ninS (ne_exa Es1 El0 (by decide)) (ninS (Exa.neArv Es1 V0 (hw _ (List.mem_of_getElem? (i := 2) rfl))) nin0))).other W6 (Or.inl (ne_exa Es1 Ef0 (by decide)))).other W12 (Or.inl (ne_exa Es1 Ef0 (by decide))))
  have f23 := (((Ks1.keep Kq2 (ninS (Ne.symm (Exa.neArv El0 Ks1 (hw _ (List.mem_of_getElem? (i := 38) rfl)))) (ninS (own_neV Ks1 V0 (by decide)) nin0))).other W6 (Ne.symm (Exa.neArv Ef0 Ks1 (hw _ (List.mem_of_getElem? (i := 31) rfl))))).other W12 (Ne.symm (Exa.neArv Ef0 Ks1 (hw _ (List.mem_of_getElem? (i := 31) rfl)))))
  have f24 := (((O0.keep Kq2 (allS g_lb (allS g_ed all0))).wr W6 g_a1).wr W12 g_a1)
  refine own_virtualB X18 hx hZ (y := (⟨"java/lang/String", "length", "()I"⟩ : MethodName)) (z := (⟨"java/lang/String", "length", "()I"⟩ : MethodName)) hown (hw _ (List.mem_of_getElem? (i := 194) rfl)) (hw _ (List.mem_of_getElem? (i := 195) rfl)) (notFace_of_selects (args := #[]) (mvT hZ (hw _ (List.mem_of_getElem? (i := 197) rfl)))) (hw _ (List.mem_of_getElem? (i := 197) rfl)) (hw _ (List.mem_of_getElem? (i := 196) rfl)) (by decide) hh18 (W := 3) (ce := 0) (sl := 0) (by decide) (by decide) [] [(.long (1 : Int64)), (.ref a1)] (by rw [hml]; rfl) f20 (fun v h' L => v = some (.int (Int32.ofNat (([ch] : List Int32)).length)) ∧ L = [] ∧ h' = h12) (StrChars.Road.lenW (W := 3) hZ (own_hln hw) (kI := 4) (hw _ (List.mem_of_getElem? (i := 2) rfl)) f20 f21 f22 f23 cod1 hbd1 (SC.ext f24.2) hzc hle1 (by decide) (by decide)) own_pd7 rfl rfl rfl (hb hby own_d_prog_40_method_3_code_35) rfl ?_
  intro v25 T25 L25 X25 hQ25
  obtain ⟨rfl, rfl, hh25⟩ := hQ25
  have N25 := Fr.app N18 (Fr.nil n0)
  rw [show (Int32.ofNat (([ch] : List Int32)).length) = (1 : Int32) from rfl]
  show own_Ends p e below _ (T25.setTop (mkF m 38 #[.val (.ref a1), .val (.ref el1)] [(.int (1 : Int32)), (.long (1 : Int64)), (.ref a1)]))
  refine own_i2l X25 hx (hb hby own_d_prog_40_method_3_code_38) rfl ?_
  rw [show ((1 : Int32).toInt64) = (1 : Int64) from by decide]
  refine own_ladd X25 hx (hb hby own_d_prog_40_method_3_code_39) rfl ?_
  rw [show ((1 : Int64) + (1 : Int64)) = (2 : Int64) from by decide]
  have f26 := (f11.wr W12)
  refine own_putF X25 hx hZ hown (host := "") (Or.inl (hw _ (List.mem_of_getElem? (i := 136) rfl))) Via.refl hh25 f15 f26 (Or.inl (hw _ (List.mem_of_getElem? (i := 137) rfl))) (hw _ (List.mem_of_getElem? (i := 31) rfl)) (ty := .long) (by decide) rfl rfl N25 g_a1 (hb hby own_d_prog_40_method_3_code_40) rfl ?_
  intro T27 h27 X27 e27 W27 N27
  have K28 := K13.wr W27 (Or.inl (List.mem_of_getElem? (i := 0) rfl))
  have f29 := f15.same W27
  refine own_aloadN X27 hx (hb hby own_d_prog_40_method_3_code_43) rfl rfl rfl ?_
  have f30 := ((((Bf0.keep Kq2 (ninS (ne_exa Ef0 El0 (by decide)) (ninS (Exa.neArv Ef0 V0 (hw _ (List.mem_of_getElem? (i := 31) rfl))) nin0))).other W6 (Or.inr (slot_ne (Or.inr (hw _ (List.mem_of_getElem? (i := 62) rfl))) (Or.inl (hw _ (List.mem_of_getElem? (i := 64) rfl))) (by decide) (t := (.object "java/util/List")) (t' := .boolean) (by decide) (by decide)))).other W12 (Or.inr (slot_ne (Or.inr (hw _ (List.mem_of_getElem? (i := 62) rfl))) (Or.inl (hw _ (List.mem_of_getElem? (i := 77) rfl))) (by decide) (t := (.object "java/util/List")) (t' := .long) (by decide) (by decide)))).other W27 (Or.inr (slot_ne (Or.inr (hw _ (List.mem_of_getElem? (i := 62) rfl))) (Or.inl (hw _ (List.mem_of_getElem? (i := 137) rfl))) (by decide) (t := (.object "java/util/List")) (t' := .long) (by decide) (by decide))))
  refine own_getF X27 hx hZ hown (host := "") (Or.inl (hw _ (List.mem_of_getElem? (i := 61) rfl))) Via.refl e27 f30 (hb hby own_d_prog_40_method_3_code_44) rfl ?_
  intro T31 X31 e31
  have f32 := (((Sl2.other W6 (Or.inl (ne_exa El0 Ef0 (by decide)))).other W12 (Or.inl (ne_exa El0 Ef0 (by decide)))).other W27 (Or.inl (ne_exa El0 Ef0 (by decide))))
  have f34 := (((El2.wr W6).wr W12).wr W27)
  refine own_iface X31 hx hZ (xi := (⟨"java/util/List", "size", "()I"⟩ : MethodName)) (y := (⟨"java/util/ArrayList", "size", "()I"⟩ : MethodName)) hown (hw _ (List.mem_of_getElem? (i := 204) rfl)) (hw _ (List.mem_of_getElem? (i := 205) rfl)) (mvT hZ (hw _ (List.mem_of_getElem? (i := 206) rfl))) (hw _ (List.mem_of_getElem? (i := 207) rfl)) (hw _ (List.mem_of_getElem? (i := 208) rfl)) (hw _ (List.mem_of_getElem? (i := 209) rfl)) (hw _ (List.mem_of_getElem? (i := 210) rfl)) (hw _ (List.mem_of_getElem? (i := 95) rfl)) (hw _ (List.mem_of_getElem? (i := 39) rfl)) (hw _ (List.mem_of_getElem? (i := 211) rfl)) (by decide) e31 (by decide) (W := 0) (by decide) (by decide) (by decide) [] [] (by rw [hml]; rfl) f34 (own_lsz l Z a0 hw lb (2 : Int32) h27 n0 f32) own_pd7 rfl rfl rfl (hb hby own_d_prog_40_method_3_code_47) rfl ?_
  intro v33 T33 L33 X33 hQ33
  obtain ⟨rfl, Nq33, hh33⟩ := hQ33
  have N33 := Fr.app N27 Nq33
  show own_Ends p e below _ (T33.setTop (mkF m 52 #[.val (.ref a1), .val (.ref el1)] [(.int (2 : Int32))]))
  refine own_aloadN X33 hx (hb hby own_d_prog_40_method_3_code_52) rfl rfl rfl ?_
  have f35 := ((((Nf0.keep Kq2 (ninS (ne_exa Ef0 El0 (by decide)) (ninS (Exa.neArv Ef0 V0 (hw _ (List.mem_of_getElem? (i := 31) rfl))) nin0))).other W6 (Or.inr (slot_ne (Or.inr (hw _ (List.mem_of_getElem? (i := 68) rfl))) (Or.inl (hw _ (List.mem_of_getElem? (i := 64) rfl))) (by decide) (t := .int) (t' := .boolean) (by decide) (by decide)))).other W12 (Or.inr (slot_ne (Or.inr (hw _ (List.mem_of_getElem? (i := 68) rfl))) (Or.inl (hw _ (List.mem_of_getElem? (i := 77) rfl))) (by decide) (t := .int) (t' := .long) (by decide) (by decide)))).other W27 (Or.inr (slot_ne (Or.inr (hw _ (List.mem_of_getElem? (i := 68) rfl))) (Or.inl (hw _ (List.mem_of_getElem? (i := 137) rfl))) (by decide) (t := .int) (t' := .long) (by decide) (by decide))))
  refine own_getF X33 hx hZ hown (host := "") (Or.inl (hw _ (List.mem_of_getElem? (i := 67) rfl))) Via.refl hh33 f35 (hb hby own_d_prog_40_method_3_code_53) rfl ?_
  intro T36 X36 e36
  refine own_icmpF X36 hx (hb hby own_d_prog_40_method_3_code_56) rfl (by decide) ?_
  refine own_aloadN X36 hx (hb hby own_d_prog_40_method_3_code_59) rfl rfl rfl ?_
  refine own_getF X36 hx hZ hown (host := "") (Or.inl (hw _ (List.mem_of_getElem? (i := 136) rfl))) Via.refl e36 f29 (hb hby own_d_prog_40_method_3_code_60) rfl ?_
  intro T37 X37 e37
  refine own_ldcLong X37 hx hZ hown (hw _ (List.mem_of_getElem? (i := 212) rfl)) (hb hby own_d_prog_40_method_3_code_63) rfl ?_
  refine own_lcmp X37 hx (hb hby own_d_prog_40_method_3_code_66) rfl ?_
  rw [show (lcmpW (2 : Int64) (1048576 : Int64)) = (-1 : Int32) from by decide]
  refine own_ifT X37 hx (hb hby own_d_prog_40_method_3_code_67) (by decide) rfl (by decide) ?_
  have f38 := (f26.wr W27)
  have f39 := ((((Rf0.keep Kq2 (ninS (ne_exa Ef0 El0 (by decide)) (ninS (Exa.neArv Ef0 V0 (hw _ (List.mem_of_getElem? (i := 31) rfl))) nin0))).other W6 (Or.inr (slot_ne (Or.inr (hw _ (List.mem_of_getElem? (i := 66) rfl))) (Or.inl (hw _ (List.mem_of_getElem? (i := 64) rfl))) (by decide) (t := (.object "java/util/List")) (t' := .boolean) (by decide) (by decide)))).other W12 (Or.inr (slot_ne (Or.inr (hw _ (List.mem_of_getElem? (i := 66) rfl))) (Or.inl (hw _ (List.mem_of_getElem? (i := 77) rfl))) (by decide) (t := (.object "java/util/List")) (t' := .long) (by decide) (by decide)))).other W27 (Or.inr (slot_ne (Or.inr (hw _ (List.mem_of_getElem? (i := 66) rfl))) (Or.inl (hw _ (List.mem_of_getElem? (i := 137) rfl))) (by decide) (t := (.object "java/util/List")) (t' := .long) (by decide) (by decide))))
  have f40 := ((f8.other W12 (Or.inr (slot_ne (Or.inl (hw _ (List.mem_of_getElem? (i := 64) rfl))) (Or.inl (hw _ (List.mem_of_getElem? (i := 77) rfl))) (by decide) (t := .boolean) (t' := .long) (by decide) (by decide)))).other W27 (Or.inr (slot_ne (Or.inl (hw _ (List.mem_of_getElem? (i := 64) rfl))) (Or.inl (hw _ (List.mem_of_getElem? (i := 137) rfl))) (by decide) (t := .boolean) (t' := .long) (by decide) (by decide))))
  have f41 := (f14.other W27 (Or.inr (slot_ne (Or.inl (hw _ (List.mem_of_getElem? (i := 77) rfl))) (Or.inl (hw _ (List.mem_of_getElem? (i := 137) rfl))) (by decide) (t := .long) (t' := .long) (by decide) (by decide))))
  have f42 := (((Ml2.other W6 (Or.inl (ne_exa El0 Ef0 (by decide)))).other W12 (Or.inl (ne_exa El0 Ef0 (by decide)))).other W27 (Or.inl (ne_exa El0 Ef0 (by decide))))
  have f43 := (((Dl2.other W6 (Or.inl (ne_exa El0 Ef0 (by decide)))).other W12 (Or.inl (ne_exa El0 Ef0 (by decide)))).other W27 (Or.inl (ne_exa El0 Ef0 (by decide))))
  have f44 := (((V2.other W6 (Ne.symm (Exa.neArv Ef0 V0 (hw _ (List.mem_of_getElem? (i := 31) rfl))))).other W12 (Ne.symm (Exa.neArv Ef0 V0 (hw _ (List.mem_of_getElem? (i := 31) rfl))))).other W27 (Ne.symm (Exa.neArv Ef0 V0 (hw _ (List.mem_of_getElem? (i := 31) rfl)))))
  exact own_ret X37 hx hlocks hret (hb hby own_d_prog_40_method_3_code_74) (by decide) (by decide) ⟨rfl, N33, by rw [e37]; exact ⟨K28, ⟨f38, f30, f39, f35, f40, f41, f29⟩, ⟨f34, f42, f43, f32⟩, f44⟩⟩
set_option maxRecDepth 65536 in
set_option maxHeartbeats 40000000 in
theorem own_fadd_2 (l : Launch) (Z : State) (a0 : Array Value) (hw : ∀ d ∈ tables_1, d.before a0 Z = true) (a1 el1 lb lr s1 de ed x0_ x1_ : Addr) (kd ke : ClassId) (mc ch zc : Int32) (h0 : Heap) (n0 : Nat) (O0 : Old Z n0 h0) (SC : Sta Z Z.heap "java/lang/String" "COMPACT_STRINGS" "Z" (.int zc)) (hzc : ¬ zc = 0) (SD : Sta Z Z.heap "java/util/ArrayList" "DEFAULTCAPACITY_EMPTY_ELEMENTDATA" "[Ljava/lang/Object;" (.ref de)) (VD : Arv Z Z.heap de kd (.object "java/lang/Object") (0 : Int32) [] .null) (g_a1 : n0 ≤ a1) (g_lb : n0 ≤ lb) (g_ed : n0 ≤ ed) (FF : Exa Z h0 a1 "com/example/ledgerleaf/ledgerleaf/Findings" ∧ Fld Z h0 a1 "com/example/ledgerleaf/ledgerleaf/Findings" "m_aBatch" "Ljava/util/List;" (.ref lb) ∧ Fld Z h0 a1 "com/example/ledgerleaf/ledgerleaf/Findings" "m_aRuns" "Ljava/util/List;" (.ref lr) ∧ Fld Z h0 a1 "com/example/ledgerleaf/ledgerleaf/Findings" "m_nBatch" "I" (.int (1000 : Int32)) ∧ Fld Z h0 a1 "com/example/ledgerleaf/ledgerleaf/Findings" "m_bSorted" "Z" (.int (0 : Int32)) ∧ Fld Z h0 a1 "com/example/ledgerleaf/ledgerleaf/Findings" "m_nCount" "J" (.long (2 : Int64)) ∧ Fld Z h0 a1 "com/example/ledgerleaf/ledgerleaf/Findings" "m_nBatchLength" "J" (.long (2 : Int64))) (Ee : Exa Z h0 el1 "com/example/ledgerleaf/ledgerleaf/Finding") (Fm : Fld Z h0 el1 "com/example/ledgerleaf/ledgerleaf/Finding" "message" "Ljava/lang/String;" (.ref s1)) (S1 : own_Str Z h0 s1 [ch]) (L0 : own_AL Z h0 lb ed mc 2) (V0 : Arv Z h0 ed ke (.object "java/lang/Object") (10 : Int32) [(.ref x0_), (.ref x1_), .null, .null, .null, .null, .null, .null, .null, .null] .null) (Ov0 : Ovr Z ke "java/lang/Object") :
    own_Met l (⟨"com/example/ledgerleaf/ledgerleaf/Findings", "add", "(Lcom/example/ledgerleaf/ledgerleaf/Finding;)V"⟩ : MethodName) prog_40_method_3_code 2 none ({ frames := 2, cells := 0, slots := 0, locals := 28 } : Room) Z #[(.ref a1), (.ref el1)] h0 (fun v h L => v = none ∧ Fr n0 L ∧ Keep h0 h [a1, lb, ed] ∧ (Exa Z h a1 "com/example/ledgerleaf/ledgerleaf/Findings" ∧ Fld Z h a1 "com/example/ledgerleaf/ledgerleaf/Findings" "m_aBatch" "Ljava/util/List;" (.ref lb) ∧ Fld Z h a1 "com/example/ledgerleaf/ledgerleaf/Findings" "m_aRuns" "Ljava/util/List;" (.ref lr) ∧ Fld Z h a1 "com/example/ledgerleaf/ledgerleaf/Findings" "m_nBatch" "I" (.int (1000 : Int32)) ∧ Fld Z h a1 "com/example/ledgerleaf/ledgerleaf/Findings" "m_bSorted" "Z" (.int (0 : Int32)) ∧ Fld Z h a1 "com/example/ledgerleaf/ledgerleaf/Findings" "m_nCount" "J" (.long (3 : Int64)) ∧ Fld Z h a1 "com/example/ledgerleaf/ledgerleaf/Findings" "m_nBatchLength" "J" (.long (3 : Int64))) ∧ own_AL Z h lb ed (mc + (1 : Int32)) 3 ∧ Arv Z h ed ke (.object "java/lang/Object") (10 : Int32) [(.ref x0_), (.ref x1_), (.ref el1), .null, .null, .null, .null, .null, .null, .null] .null) := by
  refine own_met (plainFor_of_name own_pn_com_example_ledgerleaf_ledgerleaf_Findings) ?_
  intro p e s m below meth c T0 hx hby hml hZ hown hnm hret hlocks X0 e0 hh0
  have ef : entryFrame m #[(.ref a1), (.ref el1)] 2 = mkF m 0 #[.val (.ref a1), .val (.ref el1)] [] := by first | (simp [entryFrame, mkF, argsToLocals, Value.category]; done) | rfl
  refine own_entry ef ?_
  have N0 := Fr.nil n0
  obtain ⟨Ef0, Bf0, Rf0, Nf0, Sf0, Cf0, Lf0⟩ := FF
  have K0 := Keep.refl h0 [a1, lb, ed]
  obtain ⟨El0, Ml0, Dl0, Sl0⟩ := L0
  obtain ⟨t1, kb1, cd1, Nn1, vs1, Es1, Vs1, Cs1, Ks1, cod1, hbd1, hle1⟩ := S1
  refine own_aloadN X0 hx (hb hby own_d_prog_40_method_3_code_0) rfl rfl rfl ?_
  refine own_getF X0 hx hZ hown (host := "") (Or.inl (hw _ (List.mem_of_getElem? (i := 61) rfl))) Via.refl e0 Bf0 (hb hby own_d_prog_40_method_3_code_1) rfl ?_
  intro T1 X1 e1
  refine own_aloadN X1 hx (hb hby own_d_prog_40_method_3_code_4) rfl rfl rfl ?_
  refine own_iface X1 hx hZ (xi := (⟨"java/util/List", "add", "(Ljava/lang/Object;)Z"⟩ : MethodName)) (y := (⟨"java/util/ArrayList", "add", "(Ljava/lang/Object;)Z"⟩ : MethodName)) hown (hw _ (List.mem_of_getElem? (i := 159) rfl)) (hw _ (List.mem_of_getElem? (i := 160) rfl)) (mvT hZ (hw _ (List.mem_of_getElem? (i := 161) rfl))) (hw _ (List.mem_of_getElem? (i := 162) rfl)) (hw _ (List.mem_of_getElem? (i := 163) rfl)) (hw _ (List.mem_of_getElem? (i := 164) rfl)) (hw _ (List.mem_of_getElem? (i := 165) rfl)) (hw _ (List.mem_of_getElem? (i := 95) rfl)) (hw _ (List.mem_of_getElem? (i := 39) rfl)) (hw _ (List.mem_of_getElem? (i := 166) rfl)) (by decide) e1 (by decide) (W := 0) (by decide) (by decide) (by decide) [(.ref el1)] [] (by rw [hml]; rfl) El0 (own_add_2 l Z a0 hw lb el1 ed x0_ x1_ ke mc h0 n0 g_lb g_ed ⟨El0, Ml0, Dl0, Sl0⟩ V0 Ov0 (Ins.of_exa Ee (hw _ (List.mem_of_getElem? (i := 188) rfl)))) own_pd5 rfl rfl rfl (hb hby own_d_prog_40_method_3_code_5) rfl ?_
  intro v2 T2 L2 X2 hQ2
  obtain ⟨rfl, Nq2, Kq2, Al2, V2⟩ := hQ2
  have N2 := Fr.app N0 Nq2
  have K3 := K0.trans Kq2 (allS (Or.inl (List.mem_of_getElem? (i := 1) rfl)) (allS (Or.inl (List.mem_of_getElem? (i := 2) rfl)) all0))
  obtain ⟨El2, Ml2, Dl2, Sl2⟩ := Al2
  show own_Ends p e below _ (T2.setTop (mkF m 10 #[.val (.ref a1), .val (.ref el1)] [(.int (1 : Int32))]))
  refine own_pop X2 hx (hb hby own_d_prog_40_method_3_code_10) rfl rfl ?_
  refine own_aloadN X2 hx (hb hby own_d_prog_40_method_3_code_11) rfl rfl rfl ?_
  refine own_iconst X2 hx (0 : Int32) (hb hby own_d_prog_40_method_3_code_12) (by decide) rfl ?_
  have f4 := (Sf0.keep Kq2 (ninS (ne_exa Ef0 El0 (by decide)) (ninS (Exa.neArv Ef0 V0 (hw _ (List.mem_of_getElem? (i := 31) rfl))) nin0)))
  have f5 := (Ef0.keep Kq2)
  refine own_putFN X2 hx hZ hown (hw _ (List.mem_of_getElem? (i := 63) rfl)) Via.refl rfl (.int (0 : Int32)) f4 f5 (Or.inl (hw _ (List.mem_of_getElem? (i := 64) rfl))) (hw _ (List.mem_of_getElem? (i := 31) rfl)) (ty := .boolean) (by decide) rfl rfl N2 g_a1 (hb hby own_d_prog_40_method_3_code_13) rfl ?_
  intro T6 h6 X6 e6 W6 N6
  have K7 := K3.wr W6 (Or.inl (List.mem_of_getElem? (i := 0) rfl))
  have f8 := f4.same W6
  refine own_aloadN X6 hx (hb hby own_d_prog_40_method_3_code_16) rfl rfl rfl ?_
  refine own_dup X6 hx (hb hby own_d_prog_40_method_3_code_17) rfl rfl ?_
  have f9 := ((Cf0.keep Kq2 (ninS (ne_exa Ef0 El0 (by decide)) (ninS (Exa.neArv Ef0 V0 (hw _ (List.mem_of_getElem? (i := 31) rfl))) nin0))).other W6 (Or.inr (slot_ne (Or.inl (hw _ (List.mem_of_getElem? (i := 77) rfl))) (Or.inl (hw _ (List.mem_of_getElem? (i := 64) rfl))) (by decide) (t := .long) (t' := .boolean) (by decide) (by decide))))
  refine own_getF X6 hx hZ hown (host := "") (Or.inl (hw _ (List.mem_of_getElem? (i := 76) rfl))) Via.refl e6 f9 (hb hby own_d_prog_40_method_3_code_18) rfl ?_
  intro T10 X10 e10
  refine own_lconst X10 hx (1 : Int64) (hb hby own_d_prog_40_method_3_code_21) (by decide) rfl ?_
  refine own_ladd X10 hx (hb hby own_d_prog_40_method_3_code_22) rfl ?_
  rw [show ((2 : Int64) + (1 : Int64)) = (3 : Int64) from by decide]
  have f11 := (f5.wr W6)
  refine own_putF X10 hx hZ hown (host := "") (Or.inl (hw _ (List.mem_of_getElem? (i := 76) rfl))) Via.refl e10 f9 f11 (Or.inl (hw _ (List.mem_of_getElem? (i := 77) rfl))) (hw _ (List.mem_of_getElem? (i := 31) rfl)) (ty := .long) (by decide) rfl rfl N6 g_a1 (hb hby own_d_prog_40_method_3_code_23) rfl ?_
  intro T12 h12 X12 e12 W12 N12
  have K13 := K7.wr W12 (Or.inl (List.mem_of_getElem? (i := 0) rfl))
  have f14 := f9.same W12
  refine own_aloadN X12 hx (hb hby own_d_prog_40_method_3_code_26) rfl rfl rfl ?_
  refine own_dup X12 hx (hb hby own_d_prog_40_method_3_code_27) rfl rfl ?_
  have f15 := (((Lf0.keep Kq2 (ninS (ne_exa Ef0 El0 (by decide)) (ninS (Exa.neArv Ef0 V0 (hw _ (List.mem_of_getElem? (i := 31) rfl))) nin0))).other W6 (Or.inr (slot_ne (Or.inl (hw _ (List.mem_of_getElem? (i := 137) rfl))) (Or.inl (hw _ (List.mem_of_getElem? (i := 64) rfl))) (by decide) (t := .long) (t' := .boolean) (by decide) (by decide)))).other W12 (Or.inr (slot_ne (Or.inl (hw _ (List.mem_of_getElem? (i := 137) rfl))) (Or.inl (hw _ (List.mem_of_getElem? (i := 77) rfl))) (by decide) (t := .long) (t' := .long) (by decide) (by decide))))
  refine own_getF X12 hx hZ hown (host := "") (Or.inl (hw _ (List.mem_of_getElem? (i := 136) rfl))) Via.refl e12 f15 (hb hby own_d_prog_40_method_3_code_28) rfl ?_
  intro T16 X16 e16
  refine own_aloadN X16 hx (hb hby own_d_prog_40_method_3_code_31) rfl rfl rfl ?_
  have f17 := (((Fm.keep Kq2 (ninS (ne_exa Ee El0 (by decide)) (ninS (Exa.neArv Ee V0 (hw _ (List.mem_of_getElem? (i := 139) rfl))) nin0))).other W6 (Or.inl (ne_exa Ee Ef0 (by decide)))).other W12 (Or.inl (ne_exa Ee Ef0 (by decide))))
  have f19 := (((Ee.keep Kq2).wr W6).wr W12)
  refine own_virtual X16 hx hZ (y := (⟨"com/example/ledgerleaf/ledgerleaf/Finding", "message", "()Ljava/lang/String;"⟩ : MethodName)) (z := (⟨"com/example/ledgerleaf/ledgerleaf/Finding", "message", "()Ljava/lang/String;"⟩ : MethodName)) hown (hw _ (List.mem_of_getElem? (i := 189) rfl)) (hw _ (List.mem_of_getElem? (i := 190) rfl)) (notFace_of_selects (args := #[]) (mvT hZ (hw _ (List.mem_of_getElem? (i := 192) rfl)))) (hw _ (List.mem_of_getElem? (i := 192) rfl)) (hw _ (List.mem_of_getElem? (i := 191) rfl)) (hw _ (List.mem_of_getElem? (i := 140) rfl)) (hw _ (List.mem_of_getElem? (i := 193) rfl)) (by decide) e16 (by decide) (W := 3) (by decide) (by decide) (by decide) [] [(.long (2 : Int64)), (.ref a1)] (by rw [hml]; rfl) f19 (own_msg l Z a0 hw el1 s1 h12 n0 f17) own_pd6 rfl rfl rfl (hb hby own_d_prog_40_method_3_code_32) rfl ?_
  intro v18 T18 L18 X18 hQ18
  obtain ⟨rfl, Nq18, hh18⟩ := hQ18
  have N18 := Fr.app N12 Nq18
  show own_Ends p e below _ (T18.setTop (mkF m 35 #[.val (.ref a1), .val (.ref el1)] [(.ref s1), (.long (2 : Int64)), (.ref a1)]))
  have f20 := (((Es1.keep Kq2).wr W6).wr W12)
  have f21 := (((Vs1.keep Kq2 (ninS (ne_exa Es1 El0 (by decide)) (ninS (Exa.neArv Es1 V0 (hw _ (List.mem_of_getElem? (i := 2) rfl))) nin0))).other W6 (Or.inl (ne_exa Es1 Ef0 (by decide)))).other W12 (Or.inl (ne_exa Es1 Ef0 (by decide))))
  have f22 := (((Cs1.keep Kq2 (ninS (ne_exa Es1 El0 (by decide)) (ninS (Exa.neArv Es1 V0 (hw _ (List.mem_of_getElem? (i := 2) rfl))) nin0))).other W6 (Or.inl (ne_exa Es1 Ef0 (by decide)))).other W12 (Or.inl (ne_exa Es1 Ef0 (by decide))))
  have f23 := (((Ks1.keep Kq2 (ninS (Ne.symm (Exa.neArv El0 Ks1 (hw _ (List.mem_of_getElem? (i := 38) rfl)))) (ninS (own_neV Ks1 V0 (by decide)) nin0))).other W6 (Ne.symm (Exa.neArv Ef0 Ks1 (hw _ (List.mem_of_getElem? (i := 31) rfl))))).other W12 (Ne.symm (Exa.neArv Ef0 Ks1 (hw _ (List.mem_of_getElem? (i := 31) rfl)))))
  have f24 := (((O0.keep Kq2 (allS g_lb (allS g_ed all0))).wr W6 g_a1).wr W12 g_a1)
  refine own_virtualB X18 hx hZ (y := (⟨"java/lang/String", "length", "()I"⟩ : MethodName)) (z := (⟨"java/lang/String", "length", "()I"⟩ : MethodName)) hown (hw _ (List.mem_of_getElem? (i := 194) rfl)) (hw _ (List.mem_of_getElem? (i := 195) rfl)) (notFace_of_selects (args := #[]) (mvT hZ (hw _ (List.mem_of_getElem? (i := 197) rfl)))) (hw _ (List.mem_of_getElem? (i := 197) rfl)) (hw _ (List.mem_of_getElem? (i := 196) rfl)) (by decide) hh18 (W := 3) (ce := 0) (sl := 0) (by decide) (by decide) [] [(.long (2 : Int64)), (.ref a1)] (by rw [hml]; rfl) f20 (fun v h' L => v = some (.int (Int32.ofNat (([ch] : List Int32)).length)) ∧ L = [] ∧ h' = h12) (StrChars.Road.lenW (W := 3) hZ (own_hln hw) (kI := 4) (hw _ (List.mem_of_getElem? (i := 2) rfl)) f20 f21 f22 f23 cod1 hbd1 (SC.ext f24.2) hzc hle1 (by decide) (by decide)) own_pd7 rfl rfl rfl (hb hby own_d_prog_40_method_3_code_35) rfl ?_
  intro v25 T25 L25 X25 hQ25
  obtain ⟨rfl, rfl, hh25⟩ := hQ25
  have N25 := Fr.app N18 (Fr.nil n0)
  rw [show (Int32.ofNat (([ch] : List Int32)).length) = (1 : Int32) from rfl]
  show own_Ends p e below _ (T25.setTop (mkF m 38 #[.val (.ref a1), .val (.ref el1)] [(.int (1 : Int32)), (.long (2 : Int64)), (.ref a1)]))
  refine own_i2l X25 hx (hb hby own_d_prog_40_method_3_code_38) rfl ?_
  rw [show ((1 : Int32).toInt64) = (1 : Int64) from by decide]
  refine own_ladd X25 hx (hb hby own_d_prog_40_method_3_code_39) rfl ?_
  rw [show ((2 : Int64) + (1 : Int64)) = (3 : Int64) from by decide]
  have f26 := (f11.wr W12)
  refine own_putF X25 hx hZ hown (host := "") (Or.inl (hw _ (List.mem_of_getElem? (i := 136) rfl))) Via.refl hh25 f15 f26 (Or.inl (hw _ (List.mem_of_getElem? (i := 137) rfl))) (hw _ (List.mem_of_getElem? (i := 31) rfl)) (ty := .long) (by decide) rfl rfl N25 g_a1 (hb hby own_d_prog_40_method_3_code_40) rfl ?_
  intro T27 h27 X27 e27 W27 N27
  have K28 := K13.wr W27 (Or.inl (List.mem_of_getElem? (i := 0) rfl))
  have f29 := f15.same W27
  refine own_aloadN X27 hx (hb hby own_d_prog_40_method_3_code_43) rfl rfl rfl ?_
  have f30 := ((((Bf0.keep Kq2 (ninS (ne_exa Ef0 El0 (by decide)) (ninS (Exa.neArv Ef0 V0 (hw _ (List.mem_of_getElem? (i := 31) rfl))) nin0))).other W6 (Or.inr (slot_ne (Or.inr (hw _ (List.mem_of_getElem? (i := 62) rfl))) (Or.inl (hw _ (List.mem_of_getElem? (i := 64) rfl))) (by decide) (t := (.object "java/util/List")) (t' := .boolean) (by decide) (by decide)))).other W12 (Or.inr (slot_ne (Or.inr (hw _ (List.mem_of_getElem? (i := 62) rfl))) (Or.inl (hw _ (List.mem_of_getElem? (i := 77) rfl))) (by decide) (t := (.object "java/util/List")) (t' := .long) (by decide) (by decide)))).other W27 (Or.inr (slot_ne (Or.inr (hw _ (List.mem_of_getElem? (i := 62) rfl))) (Or.inl (hw _ (List.mem_of_getElem? (i := 137) rfl))) (by decide) (t := (.object "java/util/List")) (t' := .long) (by decide) (by decide))))
  refine own_getF X27 hx hZ hown (host := "") (Or.inl (hw _ (List.mem_of_getElem? (i := 61) rfl))) Via.refl e27 f30 (hb hby own_d_prog_40_method_3_code_44) rfl ?_
  intro T31 X31 e31
  have f32 := (((Sl2.other W6 (Or.inl (ne_exa El0 Ef0 (by decide)))).other W12 (Or.inl (ne_exa El0 Ef0 (by decide)))).other W27 (Or.inl (ne_exa El0 Ef0 (by decide))))
  have f34 := (((El2.wr W6).wr W12).wr W27)
  refine own_iface X31 hx hZ (xi := (⟨"java/util/List", "size", "()I"⟩ : MethodName)) (y := (⟨"java/util/ArrayList", "size", "()I"⟩ : MethodName)) hown (hw _ (List.mem_of_getElem? (i := 204) rfl)) (hw _ (List.mem_of_getElem? (i := 205) rfl)) (mvT hZ (hw _ (List.mem_of_getElem? (i := 206) rfl))) (hw _ (List.mem_of_getElem? (i := 207) rfl)) (hw _ (List.mem_of_getElem? (i := 208) rfl)) (hw _ (List.mem_of_getElem? (i := 209) rfl)) (hw _ (List.mem_of_getElem? (i := 210) rfl)) (hw _ (List.mem_of_getElem? (i := 95) rfl)) (hw _ (List.mem_of_getElem? (i := 39) rfl)) (hw _ (List.mem_of_getElem? (i := 211) rfl)) (by decide) e31 (by decide) (W := 0) (by decide) (by decide) (by decide) [] [] (by rw [hml]; rfl) f34 (own_lsz l Z a0 hw lb (3 : Int32) h27 n0 f32) own_pd7 rfl rfl rfl (hb hby own_d_prog_40_method_3_code_47) rfl ?_
  intro v33 T33 L33 X33 hQ33
  obtain ⟨rfl, Nq33, hh33⟩ := hQ33
  have N33 := Fr.app N27 Nq33
  show own_Ends p e below _ (T33.setTop (mkF m 52 #[.val (.ref a1), .val (.ref el1)] [(.int (3 : Int32))]))
  refine own_aloadN X33 hx (hb hby own_d_prog_40_method_3_code_52) rfl rfl rfl ?_
  have f35 := ((((Nf0.keep Kq2 (ninS (ne_exa Ef0 El0 (by decide)) (ninS (Exa.neArv Ef0 V0 (hw _ (List.mem_of_getElem? (i := 31) rfl))) nin0))).other W6 (Or.inr (slot_ne (Or.inr (hw _ (List.mem_of_getElem? (i := 68) rfl))) (Or.inl (hw _ (List.mem_of_getElem? (i := 64) rfl))) (by decide) (t := .int) (t' := .boolean) (by decide) (by decide)))).other W12 (Or.inr (slot_ne (Or.inr (hw _ (List.mem_of_getElem? (i := 68) rfl))) (Or.inl (hw _ (List.mem_of_getElem? (i := 77) rfl))) (by decide) (t := .int) (t' := .long) (by decide) (by decide)))).other W27 (Or.inr (slot_ne (Or.inr (hw _ (List.mem_of_getElem? (i := 68) rfl))) (Or.inl (hw _ (List.mem_of_getElem? (i := 137) rfl))) (by decide) (t := .int) (t' := .long) (by decide) (by decide))))
  refine own_getF X33 hx hZ hown (host := "") (Or.inl (hw _ (List.mem_of_getElem? (i := 67) rfl))) Via.refl hh33 f35 (hb hby own_d_prog_40_method_3_code_53) rfl ?_
  intro T36 X36 e36
  refine own_icmpF X36 hx (hb hby own_d_prog_40_method_3_code_56) rfl (by decide) ?_
  refine own_aloadN X36 hx (hb hby own_d_prog_40_method_3_code_59) rfl rfl rfl ?_
  refine own_getF X36 hx hZ hown (host := "") (Or.inl (hw _ (List.mem_of_getElem? (i := 136) rfl))) Via.refl e36 f29 (hb hby own_d_prog_40_method_3_code_60) rfl ?_
  intro T37 X37 e37
  refine own_ldcLong X37 hx hZ hown (hw _ (List.mem_of_getElem? (i := 212) rfl)) (hb hby own_d_prog_40_method_3_code_63) rfl ?_
  refine own_lcmp X37 hx (hb hby own_d_prog_40_method_3_code_66) rfl ?_
  rw [show (lcmpW (3 : Int64) (1048576 : Int64)) = (-1 : Int32) from by decide]
  refine own_ifT X37 hx (hb hby own_d_prog_40_method_3_code_67) (by decide) rfl (by decide) ?_
  have f38 := (f26.wr W27)
  have f39 := ((((Rf0.keep Kq2 (ninS (ne_exa Ef0 El0 (by decide)) (ninS (Exa.neArv Ef0 V0 (hw _ (List.mem_of_getElem? (i := 31) rfl))) nin0))).other W6 (Or.inr (slot_ne (Or.inr (hw _ (List.mem_of_getElem? (i := 66) rfl))) (Or.inl (hw _ (List.mem_of_getElem? (i := 64) rfl))) (by decide) (t := (.object "java/util/List")) (t' := .boolean) (by decide) (by decide)))).other W12 (Or.inr (slot_ne (Or.inr (hw _ (List.mem_of_getElem? (i := 66) rfl))) (Or.inl (hw _ (List.mem_of_getElem? (i := 77) rfl))) (by decide) (t := (.object "java/util/List")) (t' := .long) (by decide) (by decide)))).other W27 (Or.inr (slot_ne (Or.inr (hw _ (List.mem_of_getElem? (i := 66) rfl))) (Or.inl (hw _ (List.mem_of_getElem? (i := 137) rfl))) (by decide) (t := (.object "java/util/List")) (t' := .long) (by decide) (by decide))))
  have f40 := ((f8.other W12 (Or.inr (slot_ne (Or.inl (hw _ (List.mem_of_getElem? (i := 64) rfl))) (Or.inl (hw _ (List.mem_of_getElem? (i := 77) rfl))) (by decide) (t := .boolean) (t' := .long) (by decide) (by decide)))).other W27 (Or.inr (slot_ne (Or.inl (hw _ (List.mem_of_getElem? (i := 64) rfl))) (Or.inl (hw _ (List.mem_of_getElem? (i := 137) rfl))) (by decide) (t := .boolean) (t' := .long) (by decide) (by decide))))
  have f41 := (f14.other W27 (Or.inr (slot_ne (Or.inl (hw _ (List.mem_of_getElem? (i := 77) rfl))) (Or.inl (hw _ (List.mem_of_getElem? (i := 137) rfl))) (by decide) (t := .long) (t' := .long) (by decide) (by decide))))
  have f42 := (((Ml2.other W6 (Or.inl (ne_exa El0 Ef0 (by decide)))).other W12 (Or.inl (ne_exa El0 Ef0 (by decide)))).other W27 (Or.inl (ne_exa El0 Ef0 (by decide))))
  have f43 := (((Dl2.other W6 (Or.inl (ne_exa El0 Ef0 (by decide)))).other W12 (Or.inl (ne_exa El0 Ef0 (by decide)))).other W27 (Or.inl (ne_exa El0 Ef0 (by decide))))
  have f44 := (((V2.other W6 (Ne.symm (Exa.neArv Ef0 V0 (hw _ (List.mem_of_getElem? (i := 31) rfl))))).other W12 (Ne.symm (Exa.neArv Ef0 V0 (hw _ (List.mem_of_getElem? (i := 31) rfl))))).other W27 (Ne.symm (Exa.neArv Ef0 V0 (hw _ (List.mem_of_getElem? (i := 31) rfl)))))
  exact own_ret X37 hx hlocks hret (hb hby own_d_prog_40_method_3_code_74) (by decide) (by decide) ⟨rfl, N33, by rw [e37]; exact ⟨K28, ⟨f38, f30, f39, f35, f40, f41, f29⟩, ⟨f34, f42, f43, f32⟩, f44⟩⟩
set_option maxRecDepth 65536 in
set_option maxHeartbeats 40000000 in
theorem own_iti (l : Launch) (Z : State) (a0 : Array Value) (hw : ∀ d ∈ tables_1, d.before a0 Z = true) (a1 l1 : Addr) (mc : Int32) (h0 : Heap) (n0 : Nat) (g_a1 : n0 ≤ a1) (E0 : Exa Z h0 a1 "java/util/ArrayList$Itr") (D0 : (∀ {O nm d : String} {ty : FieldType}, Laid Z a0 "java/util/ArrayList$Itr" O nm d → parseFieldDescriptor d = some ty → Fld Z h0 a1 O nm d (defaultValue ty))) (E1 : Exa Z h0 l1 "java/util/ArrayList") (F1 : Fld Z h0 l1 "java/util/AbstractList" "modCount" "I" (.int mc)) :
    own_Met l (⟨"java/util/ArrayList$Itr", "<init>", "(Ljava/util/ArrayList;)V"⟩ : MethodName) jdk_49_method_1_code 2 none ({ frames := 1, cells := 0, slots := 0, locals := 12 } : Room) Z #[(.ref a1), (.ref l1)] h0 (fun v h L => v = none ∧ Fr n0 L ∧ Keep h0 h [a1] ∧ Exa Z h a1 "java/util/ArrayList$Itr" ∧ Fld Z h a1 "java/util/ArrayList$Itr" "this$0" "Ljava/util/ArrayList;" (.ref l1) ∧ Fld Z h a1 "java/util/ArrayList$Itr" "cursor" "I" (.int (0 : Int32))) := by
  refine own_met (plainFor_of_name own_pn_java_util_ArrayList_Itr) ?_
  intro p e s m below meth c T0 hx hby hml hZ hown hnm hret hlocks X0 e0 hh0
  have ef : entryFrame m #[(.ref a1), (.ref l1)] 2 = mkF m 0 #[.val (.ref a1), .val (.ref l1)] [] := by first | (simp [entryFrame, mkF, argsToLocals, Value.category]; done) | rfl
  refine own_entry ef ?_
  have N0 := Fr.nil n0
  have K0 := Keep.refl h0 [a1]
  have Fa1_this_0 : Fld Z h0 a1 "java/util/ArrayList$Itr" "this$0" "Ljava/util/ArrayList;" .null := D0 (Or.inr (hw _ (List.mem_of_getElem? (i := 105) rfl))) (ty := (.object "java/util/ArrayList")) (by decide)
  have Fa1_lastRet : Fld Z h0 a1 "java/util/ArrayList$Itr" "lastRet" "I" (.int (0 : Int32)) := D0 (Or.inl (hw _ (List.mem_of_getElem? (i := 108) rfl))) (ty := .int) (by decide)
  have Fa1_expectedModCount : Fld Z h0 a1 "java/util/ArrayList$Itr" "expectedModCount" "I" (.int (0 : Int32)) := D0 (Or.inl (hw _ (List.mem_of_getElem? (i := 112) rfl))) (ty := .int) (by decide)
  have Fa1_cursor : Fld Z h0 a1 "java/util/ArrayList$Itr" "cursor" "I" (.int (0 : Int32)) := D0 (Or.inl (hw _ (List.mem_of_getElem? (i := 123) rfl))) (ty := .int) (by decide)
  refine own_aloadN X0 hx (hb hby own_d_jdk_49_method_1_code_0) rfl rfl rfl ?_
  refine own_aloadN X0 hx (hb hby own_d_jdk_49_method_1_code_1) rfl rfl rfl ?_
  refine own_putF X0 hx hZ hown (host := "") (Or.inl (hw _ (List.mem_of_getElem? (i := 104) rfl))) Via.refl e0 Fa1_this_0 E0 (Or.inr ⟨(hw _ (List.mem_of_getElem? (i := 105) rfl)), rfl, hnm⟩) (hw _ (List.mem_of_getElem? (i := 98) rfl)) (ty := (.object "java/util/ArrayList")) (by decide) rfl rfl N0 g_a1 (hb hby own_d_jdk_49_method_1_code_2) rfl ?_
  intro T1 h1 X1 e1 W1 N1
  have K2 := K0.wr W1 (Or.inl (List.mem_of_getElem? (i := 0) rfl))
  have f3 := Fa1_this_0.same W1
  refine own_aloadN X1 hx (hb hby own_d_jdk_49_method_1_code_5) rfl rfl rfl ?_
  refine own_initO X1 hx hZ hown (hw _ (List.mem_of_getElem? (i := 106) rfl)) (hw _ (List.mem_of_getElem? (i := 12) rfl)) (hw _ (List.mem_of_getElem? (i := 13) rfl)) e1 (by rw [hml]; rfl) (hb hby own_d_jdk_49_method_1_code_6) 0 rfl (by decide) (by decide) rfl ?_
  intro T4 X4 e4
  refine own_aloadN X4 hx (hb hby own_d_jdk_49_method_1_code_9) rfl rfl rfl ?_
  refine own_iconst X4 hx (-1 : Int32) (hb hby own_d_jdk_49_method_1_code_10) (by decide) rfl ?_
  have f5 := (Fa1_lastRet.other W1 (Or.inr (slot_ne (Or.inl (hw _ (List.mem_of_getElem? (i := 108) rfl))) (Or.inr (hw _ (List.mem_of_getElem? (i := 105) rfl))) (by decide) (t := .int) (t' := (.object "java/util/ArrayList")) (by decide) (by decide))))
  have f6 := (E0.wr W1)
  refine own_putF X4 hx hZ hown (host := "") (Or.inl (hw _ (List.mem_of_getElem? (i := 107) rfl))) Via.refl e4 f5 f6 (Or.inl (hw _ (List.mem_of_getElem? (i := 108) rfl))) (hw _ (List.mem_of_getElem? (i := 98) rfl)) (ty := .int) (by decide) rfl rfl N1 g_a1 (hb hby own_d_jdk_49_method_1_code_11) rfl ?_
  intro T7 h7 X7 e7 W7 N7
  have K8 := K2.wr W7 (Or.inl (List.mem_of_getElem? (i := 0) rfl))
  have f9 := f5.same W7
  refine own_aloadN X7 hx (hb hby own_d_jdk_49_method_1_code_14) rfl rfl rfl ?_
  refine own_aloadN X7 hx (hb hby own_d_jdk_49_method_1_code_15) rfl rfl rfl ?_
  have f10 := (f3.other W7 (Or.inr (slot_ne (Or.inr (hw _ (List.mem_of_getElem? (i := 105) rfl))) (Or.inl (hw _ (List.mem_of_getElem? (i := 108) rfl))) (by decide) (t := (.object "java/util/ArrayList")) (t' := .int) (by decide) (by decide))))
  refine own_getF X7 hx hZ hown (host := "") (Or.inl (hw _ (List.mem_of_getElem? (i := 104) rfl))) Via.refl e7 f10 (hb hby own_d_jdk_49_method_1_code_16) rfl ?_
  intro T11 X11 e11
  have f12 := ((F1.other W1 (Or.inl (ne_exa E1 E0 (by decide)))).other W7 (Or.inl (ne_exa E1 E0 (by decide))))
  refine own_getF X11 hx hZ hown (host := "") (Or.inl (hw _ (List.mem_of_getElem? (i := 109) rfl))) (Via.of (hw _ (List.mem_of_getElem? (i := 110) rfl))) e11 f12 (hb hby own_d_jdk_49_method_1_code_19) rfl ?_
  intro T13 X13 e13
  have f14 := ((Fa1_expectedModCount.other W1 (Or.inr (slot_ne (Or.inl (hw _ (List.mem_of_getElem? (i := 112) rfl))) (Or.inr (hw _ (List.mem_of_getElem? (i := 105) rfl))) (by decide) (t := .int) (t' := (.object "java/util/ArrayList")) (by decide) (by decide)))).other W7 (Or.inr (slot_ne (Or.inl (hw _ (List.mem_of_getElem? (i := 112) rfl))) (Or.inl (hw _ (List.mem_of_getElem? (i := 108) rfl))) (by decide) (t := .int) (t' := .int) (by decide) (by decide))))
  have f15 := (f6.wr W7)
  refine own_putF X13 hx hZ hown (host := "") (Or.inl (hw _ (List.mem_of_getElem? (i := 111) rfl))) Via.refl e13 f14 f15 (Or.inl (hw _ (List.mem_of_getElem? (i := 112) rfl))) (hw _ (List.mem_of_getElem? (i := 98) rfl)) (ty := .int) (by decide) rfl rfl N7 g_a1 (hb hby own_d_jdk_49_method_1_code_22) rfl ?_
  intro T16 h16 X16 e16 W16 N16
  have K17 := K8.wr W16 (Or.inl (List.mem_of_getElem? (i := 0) rfl))
  have f18 := f14.same W16
  have f19 := (f15.wr W16)
  have f20 := (f10.other W16 (Or.inr (slot_ne (Or.inr (hw _ (List.mem_of_getElem? (i := 105) rfl))) (Or.inl (hw _ (List.mem_of_getElem? (i := 112) rfl))) (by decide) (t := (.object "java/util/ArrayList")) (t' := .int) (by decide) (by decide))))
  have f21 := (((Fa1_cursor.other W1 (Or.inr (slot_ne (Or.inl (hw _ (List.mem_of_getElem? (i := 123) rfl))) (Or.inr (hw _ (List.mem_of_getElem? (i := 105) rfl))) (by decide) (t := .int) (t' := (.object "java/util/ArrayList")) (by decide) (by decide)))).other W7 (Or.inr (slot_ne (Or.inl (hw _ (List.mem_of_getElem? (i := 123) rfl))) (Or.inl (hw _ (List.mem_of_getElem? (i := 108) rfl))) (by decide) (t := .int) (t' := .int) (by decide) (by decide)))).other W16 (Or.inr (slot_ne (Or.inl (hw _ (List.mem_of_getElem? (i := 123) rfl))) (Or.inl (hw _ (List.mem_of_getElem? (i := 112) rfl))) (by decide) (t := .int) (t' := .int) (by decide) (by decide))))
  exact own_ret X16 hx hlocks hret (hb hby own_d_jdk_49_method_1_code_25) (by decide) (by decide) ⟨rfl, N16, by rw [e16]; exact ⟨K17, f19, f20, f21⟩⟩
set_option maxRecDepth 65536 in
set_option maxHeartbeats 40000000 in
theorem own_iter (l : Launch) (Z : State) (a0 : Array Value) (hw : ∀ d ∈ tables_1, d.before a0 Z = true) (a1 : Addr) (mc : Int32) (h0 : Heap) (n0 : Nat) (O0 : Old Z n0 h0) (E0 : Exa Z h0 a1 "java/util/ArrayList") (F1 : Fld Z h0 a1 "java/util/AbstractList" "modCount" "I" (.int mc)) :
    own_Met l (⟨"java/util/ArrayList", "iterator", "()Ljava/util/Iterator;"⟩ : MethodName) jdk_38_method_55_code 1 (some (.object "java/util/Iterator")) ({ frames := 2, cells := 1, slots := 4, locals := 26 } : Room) Z #[(.ref a1)] h0 (fun v h L => ∃ b : Addr, v = some (.ref b) ∧ Fr n0 L ∧ Keep h0 h [] ∧ n0 ≤ b ∧ h0.size ≤ b ∧ Exa Z h b "java/util/ArrayList$Itr" ∧ Fld Z h b "java/util/ArrayList$Itr" "this$0" "Ljava/util/ArrayList;" (.ref a1) ∧ Fld Z h b "java/util/ArrayList$Itr" "cursor" "I" (.int (0 : Int32))) := by
  refine own_met (plainFor_of_name own_pn_java_util_ArrayList) ?_
  intro p e s m below meth c T0 hx hby hml hZ hown hnm hret hlocks X0 e0 hh0
  have ef : entryFrame m #[(.ref a1)] 1 = mkF m 0 #[.val (.ref a1)] [] := by first | (simp [entryFrame, mkF, argsToLocals, Value.category]; done) | rfl
  refine own_entry ef ?_
  have N0 := Fr.nil n0
  have K0 := Keep.refl h0 []
  refine own_new X0 hx hZ hown (hw _ (List.mem_of_getElem? (i := 97) rfl)) (hw _ (List.mem_of_getElem? (i := 98) rfl)) (hw _ (List.mem_of_getElem? (i := 99) rfl)) e0 (hb hby own_d_jdk_38_method_55_code_0) (by decide) (by decide) rfl ?_
  intro T1 h1 b1 X1 e1 g1 E1 A1 D1
  have g_b1 : n0 ≤ b1 := Nat.le_trans (own_oz O0) (Nat.le_of_eq g1.symm)
  have sz_b1 : h0.size ≤ b1 := Nat.le_trans K0.1 (Nat.le_of_eq g1.symm)
  have K2 := K0.ext E1
  have Fb1_this_0 : Fld Z h1 b1 "java/util/ArrayList$Itr" "this$0" "Ljava/util/ArrayList;" .null := D1 (Or.inr (hw _ (List.mem_of_getElem? (i := 105) rfl))) (ty := (.object "java/util/ArrayList")) (by decide)
  have Fb1_lastRet : Fld Z h1 b1 "java/util/ArrayList$Itr" "lastRet" "I" (.int (0 : Int32)) := D1 (Or.inl (hw _ (List.mem_of_getElem? (i := 108) rfl))) (ty := .int) (by decide)
  have Fb1_expectedModCount : Fld Z h1 b1 "java/util/ArrayList$Itr" "expectedModCount" "I" (.int (0 : Int32)) := D1 (Or.inl (hw _ (List.mem_of_getElem? (i := 112) rfl))) (ty := .int) (by decide)
  have Fb1_cursor : Fld Z h1 b1 "java/util/ArrayList$Itr" "cursor" "I" (.int (0 : Int32)) := D1 (Or.inl (hw _ (List.mem_of_getElem? (i := 123) rfl))) (ty := .int) (by decide)
  refine own_dup X1 hx (hb hby own_d_jdk_38_method_55_code_3) rfl rfl ?_
  refine own_aloadN X1 hx (hb hby own_d_jdk_38_method_55_code_4) rfl rfl rfl ?_
  have f3 := (E0.ext E1)
  have f4 := (F1.ext E1)
  refine own_special X1 hx hZ (y := (⟨"java/util/ArrayList$Itr", "<init>", "(Ljava/util/ArrayList;)V"⟩ : MethodName)) rfl hown (hw _ (List.mem_of_getElem? (i := 100) rfl)) (hw _ (List.mem_of_getElem? (i := 101) rfl)) (hw _ (List.mem_of_getElem? (i := 99) rfl)) (hw _ (List.mem_of_getElem? (i := 103) rfl)) (by decide) e1 (by decide) (W := 1) (by decide) (by decide) (by decide) [(.ref a1)] [(.ref b1)] (by rw [hml]; rfl) (a := b1) (own_iti l Z a0 hw b1 a1 mc h1 n0 g_b1 A1 D1 f3 f4) own_pd8 rfl rfl rfl (hb hby own_d_jdk_38_method_55_code_5) rfl ?_
  intro v5 T5 L5 X5 hQ5
  obtain ⟨rfl, Nq5, Kq5, Ei5, Ti5, Ci5⟩ := hQ5
  have N5 := Fr.app N0 Nq5
  have K6 := K2.trans Kq5 (allS (Or.inr sz_b1) all0)
  show own_Ends p e below _ (T5.setTop (mkF m 8 #[.val (.ref a1)] [(.ref b1)]))
  exact own_retA X5 hx hlocks hret rfl rfl (hb hby own_d_jdk_38_method_55_code_8) (by decide) (by decide) ⟨b1, rfl, N5, by exact ⟨K6, g_b1, sz_b1, Ei5, Ti5, Ci5⟩⟩
set_option maxRecDepth 65536 in
set_option maxHeartbeats 40000000 in
theorem own_hasn (l : Launch) (Z : State) (a0 : Array Value) (hw : ∀ d ∈ tables_1, d.before a0 Z = true) (a1 l1 : Addr) (h0 : Heap) (n0 : Nat) (F1 : Fld Z h0 a1 "java/util/ArrayList$Itr" "cursor" "I" (.int (0 : Int32))) (F2 : Fld Z h0 a1 "java/util/ArrayList$Itr" "this$0" "Ljava/util/ArrayList;" (.ref l1)) (F3 : Fld Z h0 l1 "java/util/ArrayList" "size" "I" (.int (0 : Int32))) :
    own_Met l (⟨"java/util/ArrayList$Itr", "hasNext", "()Z"⟩ : MethodName) jdk_49_method_2_code 1 (some .boolean) ({ frames := 0, cells := 0, slots := 0, locals := 0 } : Room) Z #[(.ref a1)] h0 (fun v h L => v = some (.int 0) ∧ Fr n0 L ∧ h = h0) := by
  refine own_met (plainFor_of_name own_pn_java_util_ArrayList_Itr) ?_
  intro p e s m below meth c T0 hx hby hml hZ hown hnm hret hlocks X0 e0 hh0
  have ef : entryFrame m #[(.ref a1)] 1 = mkF m 0 #[.val (.ref a1)] [] := by first | (simp [entryFrame, mkF, argsToLocals, Value.category]; done) | rfl
  refine own_entry ef ?_
  have N0 := Fr.nil n0
  refine own_aloadN X0 hx (hb hby own_d_jdk_49_method_2_code_0) rfl rfl rfl ?_
  refine own_getF X0 hx hZ hown (host := "") (Or.inl (hw _ (List.mem_of_getElem? (i := 122) rfl))) Via.refl e0 F1 (hb hby own_d_jdk_49_method_2_code_1) rfl ?_
  intro T1 X1 e1
  refine own_aloadN X1 hx (hb hby own_d_jdk_49_method_2_code_4) rfl rfl rfl ?_
  refine own_getF X1 hx hZ hown (host := "") (Or.inl (hw _ (List.mem_of_getElem? (i := 104) rfl))) Via.refl e1 F2 (hb hby own_d_jdk_49_method_2_code_5) rfl ?_
  intro T2 X2 e2
  refine own_getF X2 hx hZ hown (Or.inr (hw _ (List.mem_of_getElem? (i := 124) rfl))) Via.refl e2 F3 (hb hby own_d_jdk_49_method_2_code_8) rfl ?_
  intro T3 X3 e3
  refine own_icmpT X3 hx (hb hby own_d_jdk_49_method_2_code_11) (by decide) rfl (by decide) ?_
  refine own_iconst X3 hx (0 : Int32) (hb hby own_d_jdk_49_method_2_code_18) (by decide) rfl ?_
  exact own_retN X3 hx hlocks hret (by simp) (hb hby own_d_jdk_49_method_2_code_19) (by decide) (by decide) (by decide) ⟨rfl, N0, e3⟩
set_option maxRecDepth 65536 in
set_option maxHeartbeats 40000000 in
theorem own_close_0 (l : Launch) (Z : State) (a0 : Array Value) (hw : ∀ d ∈ tables_1, d.before a0 Z = true) (a1 lb lr de  : Addr) (kd  : ClassId) (mc mr : Int32) (h0 : Heap) (n0 : Nat) (O0 : Old Z n0 h0) (SD : Sta Z Z.heap "java/util/ArrayList" "DEFAULTCAPACITY_EMPTY_ELEMENTDATA" "[Ljava/lang/Object;" (.ref de)) (VD : Arv Z Z.heap de kd (.object "java/lang/Object") (0 : Int32) [] .null) (g_a1 : n0 ≤ a1) (g_lb : n0 ≤ lb) (g_lr : n0 ≤ lr) (hne : lb ≠ lr) (FF : Exa Z h0 a1 "com/example/ledgerleaf/ledgerleaf/Findings" ∧ Fld Z h0 a1 "com/example/ledgerleaf/ledgerleaf/Findings" "m_aBatch" "Ljava/util/List;" (.ref lb) ∧ Fld Z h0 a1 "com/example/ledgerleaf/ledgerleaf/Findings" "m_aRuns" "Ljava/util/List;" (.ref lr) ∧ Fld Z h0 a1 "com/example/ledgerleaf/ledgerleaf/Findings" "m_nBatch" "I" (.int (1000 : Int32)) ∧ Fld Z h0 a1 "com/example/ledgerleaf/ledgerleaf/Findings" "m_bSorted" "Z" (.int (1 : Int32)) ∧ Fld Z h0 a1 "com/example/ledgerleaf/ledgerleaf/Findings" "m_nCount" "J" (.long (0 : Int64)) ∧ Fld Z h0 a1 "com/example/ledgerleaf/ledgerleaf/Findings" "m_nBatchLength" "J" (.long (0 : Int64))) (L0 : own_AL Z h0 lb de mc 0) (L1 : own_AL Z h0 lr de mr 0) :
    own_Met l (⟨"com/example/ledgerleaf/ledgerleaf/Findings", "close", "()V"⟩ : MethodName) prog_40_method_8_code 3 none ({ frames := 3, cells := 1, slots := 4, locals := 38 } : Room) Z #[(.ref a1)] h0 (fun v h L => v = none ∧ Fr n0 L ∧ Keep h0 h [a1, lb, lr] ∧ Exa Z h a1 "com/example/ledgerleaf/ledgerleaf/Findings" ∧ Fld Z h a1 "com/example/ledgerleaf/ledgerleaf/Findings" "m_nCount" "J" (.long (0 : Int64))) := by
  refine own_met (plainFor_of_name own_pn_com_example_ledgerleaf_ledgerleaf_Findings) ?_
  intro p e s m below meth c T0 hx hby hml hZ hown hnm hret hlocks X0 e0 hh0
  have ef : entryFrame m #[(.ref a1)] 3 = mkF m 0 #[.val (.ref a1), .unset, .unset] [] := by first | (simp [entryFrame, mkF, argsToLocals, Value.category]; done) | rfl
  refine own_entry ef ?_
  have N0 := Fr.nil n0
  obtain ⟨Ef0, Bf0, Rf0, Nf0, Sf0, Cf0, Lf0⟩ := FF
  have K0 := Keep.refl h0 [a1, lb, lr]
  obtain ⟨El0, Ml0, Dl0, Sl0⟩ := L0
  obtain ⟨El1, Ml1, Dl1, Sl1⟩ := L1
  refine own_aloadN X0 hx (hb hby own_d_prog_40_method_8_code_0) rfl rfl rfl ?_
  refine own_getF X0 hx hZ hown (host := "") (Or.inl (hw _ (List.mem_of_getElem? (i := 65) rfl))) Via.refl e0 Rf0 (hb hby own_d_prog_40_method_8_code_1) rfl ?_
  intro T1 X1 e1
  refine own_iface X1 hx hZ (xi := (⟨"java/util/List", "iterator", "()Ljava/util/Iterator;"⟩ : MethodName)) (y := (⟨"java/util/ArrayList", "iterator", "()Ljava/util/Iterator;"⟩ : MethodName)) hown (hw _ (List.mem_of_getElem? (i := 88) rfl)) (hw _ (List.mem_of_getElem? (i := 89) rfl)) (mvT hZ (hw _ (List.mem_of_getElem? (i := 90) rfl))) (hw _ (List.mem_of_getElem? (i := 91) rfl)) (hw _ (List.mem_of_getElem? (i := 92) rfl)) (hw _ (List.mem_of_getElem? (i := 93) rfl)) (hw _ (List.mem_of_getElem? (i := 94) rfl)) (hw _ (List.mem_of_getElem? (i := 95) rfl)) (hw _ (List.mem_of_getElem? (i := 39) rfl)) (hw _ (List.mem_of_getElem? (i := 96) rfl)) (by decide) e1 (by decide) (W := 0) (by decide) (by decide) (by decide) [] [] (by rw [hml]; rfl) El1 (own_iter l Z a0 hw lr mr h0 n0 O0 El1 Ml1) own_pd9 rfl rfl rfl (hb hby own_d_prog_40_method_8_code_4) rfl ?_
  intro v2 T2 L2 X2 hQ2
  obtain ⟨b2, rfl, Nq2, Kq2, g_b2, sz_b2, Ei2, Ti2, Ci2⟩ := hQ2
  have sz_b2 := Nat.le_trans K0.1 sz_b2
  have N2 := Fr.app N0 Nq2
  have K3 := K0.trans Kq2 all0
  show own_Ends p e below _ (T2.setTop (mkF m 9 #[.val (.ref a1), .unset, .unset] [(.ref b2)]))
  refine own_astoreN X2 hx #[.val (.ref a1), .val (.ref b2), .unset] (hb hby own_d_prog_40_method_8_code_9) rfl rfl rfl ?_
  refine own_aloadN X2 hx (hb hby own_d_prog_40_method_8_code_10) rfl rfl rfl ?_
  have f4 := (Sl1.keep Kq2 nin0)
  refine own_iface X2 hx hZ (xi := (⟨"java/util/Iterator", "hasNext", "()Z"⟩ : MethodName)) (y := (⟨"java/util/ArrayList$Itr", "hasNext", "()Z"⟩ : MethodName)) hown (hw _ (List.mem_of_getElem? (i := 113) rfl)) (hw _ (List.mem_of_getElem? (i := 114) rfl)) (mvT hZ (hw _ (List.mem_of_getElem? (i := 115) rfl))) (hw _ (List.mem_of_getElem? (i := 116) rfl)) (hw _ (List.mem_of_getElem? (i := 117) rfl)) (hw _ (List.mem_of_getElem? (i := 118) rfl)) (hw _ (List.mem_of_getElem? (i := 119) rfl)) (hw _ (List.mem_of_getElem? (i := 120) rfl)) (hw _ (List.mem_of_getElem? (i := 99) rfl)) (hw _ (List.mem_of_getElem? (i := 121) rfl)) (by decide) rfl (by decide) (W := 0) (by decide) (by decide) (by decide) [] [] (by rw [hml]; rfl) Ei2 (own_hasn l Z a0 hw b2 lr T2.heap n0 Ci2 Ti2 f4) own_pd10 rfl rfl rfl (hb hby own_d_prog_40_method_8_code_11) rfl ?_
  intro v5 T5 L5 X5 hQ5
  obtain ⟨rfl, Nq5, hh5⟩ := hQ5
  have N5 := Fr.app N2 Nq5
  show own_Ends p e below _ (T5.setTop (mkF m 16 #[.val (.ref a1), .val (.ref b2), .unset] [(.int (0 : Int32))]))
  refine own_ifT X5 hx (hb hby own_d_prog_40_method_8_code_16) (by decide) rfl (by decide) ?_
  refine own_aloadN X5 hx (hb hby own_d_prog_40_method_8_code_39) rfl rfl rfl ?_
  have f6 := (Rf0.keep Kq2 nin0)
  refine own_getF X5 hx hZ hown (host := "") (Or.inl (hw _ (List.mem_of_getElem? (i := 65) rfl))) Via.refl hh5 f6 (hb hby own_d_prog_40_method_8_code_40) rfl ?_
  intro T7 X7 e7
  have f8 := (El1.keep Kq2)
  have f9 := (Ml1.keep Kq2 nin0)
  have f10 := (Dl1.keep Kq2 nin0)
  refine own_iface X7 hx hZ (xi := (⟨"java/util/List", "clear", "()V"⟩ : MethodName)) (y := (⟨"java/util/ArrayList", "clear", "()V"⟩ : MethodName)) hown (hw _ (List.mem_of_getElem? (i := 126) rfl)) (hw _ (List.mem_of_getElem? (i := 127) rfl)) (mvT hZ (hw _ (List.mem_of_getElem? (i := 128) rfl))) (hw _ (List.mem_of_getElem? (i := 129) rfl)) (hw _ (List.mem_of_getElem? (i := 130) rfl)) (hw _ (List.mem_of_getElem? (i := 131) rfl)) (hw _ (List.mem_of_getElem? (i := 132) rfl)) (hw _ (List.mem_of_getElem? (i := 95) rfl)) (hw _ (List.mem_of_getElem? (i := 39) rfl)) (hw _ (List.mem_of_getElem? (i := 133) rfl)) (by decide) e7 (by decide) (W := 0) (by decide) (by decide) (by decide) [] [] (by rw [hml]; rfl) f8 (own_clear_0 l Z a0 hw lr de kd mr T2.heap n0 g_lr ⟨f8, f9, f10, f4⟩) own_pd0 rfl rfl rfl (hb hby own_d_prog_40_method_8_code_43) rfl ?_
  intro v11 T11 L11 X11 hQ11
  obtain ⟨rfl, Nq11, Kq11, Al11⟩ := hQ11
  have N11 := Fr.app N5 Nq11
  have K12 := K3.trans Kq11 (allS (Or.inl (List.mem_of_getElem? (i := 2) rfl)) all0)
  obtain ⟨El11, Ml11, Dl11, Sl11⟩ := Al11
  show own_Ends p e below _ (T11.setTop (mkF m 48 #[.val (.ref a1), .val (.ref b2), .unset] []))
  refine own_aloadN X11 hx (hb hby own_d_prog_40_method_8_code_48) rfl rfl rfl ?_
  have f13 := ((Bf0.keep Kq2 nin0).keep Kq11 (ninS (ne_exa Ef0 El1 (by decide)) nin0))
  refine own_getF X11 hx hZ hown (host := "") (Or.inl (hw _ (List.mem_of_getElem? (i := 61) rfl))) Via.refl rfl f13 (hb hby own_d_prog_40_method_8_code_49) rfl ?_
  intro T14 X14 e14
  have f15 := ((El0.keep Kq2).keep Kq11)
  have f16 := ((Ml0.keep Kq2 nin0).keep Kq11 (ninS hne nin0))
  have f17 := ((Dl0.keep Kq2 nin0).keep Kq11 (ninS hne nin0))
  have f18 := ((Sl0.keep Kq2 nin0).keep Kq11 (ninS hne nin0))
  refine own_iface X14 hx hZ (xi := (⟨"java/util/List", "clear", "()V"⟩ : MethodName)) (y := (⟨"java/util/ArrayList", "clear", "()V"⟩ : MethodName)) hown (hw _ (List.mem_of_getElem? (i := 126) rfl)) (hw _ (List.mem_of_getElem? (i := 127) rfl)) (mvT hZ (hw _ (List.mem_of_getElem? (i := 128) rfl))) (hw _ (List.mem_of_getElem? (i := 129) rfl)) (hw _ (List.mem_of_getElem? (i := 130) rfl)) (hw _ (List.mem_of_getElem? (i := 131) rfl)) (hw _ (List.mem_of_getElem? (i := 132) rfl)) (hw _ (List.mem_of_getElem? (i := 95) rfl)) (hw _ (List.mem_of_getElem? (i := 39) rfl)) (hw _ (List.mem_of_getElem? (i := 133) rfl)) (by decide) e14 (by decide) (W := 0) (by decide) (by decide) (by decide) [] [] (by rw [hml]; rfl) f15 (own_clear_0 l Z a0 hw lb de kd mc T11.heap n0 g_lb ⟨f15, f16, f17, f18⟩) own_pd0 rfl rfl rfl (hb hby own_d_prog_40_method_8_code_52) rfl ?_
  intro v19 T19 L19 X19 hQ19
  obtain ⟨rfl, Nq19, Kq19, Al19⟩ := hQ19
  have N19 := Fr.app N11 Nq19
  have K20 := K12.trans Kq19 (allS (Or.inl (List.mem_of_getElem? (i := 1) rfl)) all0)
  obtain ⟨El19, Ml19, Dl19, Sl19⟩ := Al19
  show own_Ends p e below _ (T19.setTop (mkF m 57 #[.val (.ref a1), .val (.ref b2), .unset] []))
  refine own_aloadN X19 hx (hb hby own_d_prog_40_method_8_code_57) rfl rfl rfl ?_
  refine own_lconst X19 hx (0 : Int64) (hb hby own_d_prog_40_method_8_code_58) (by decide) rfl ?_
  have f21 := (((Lf0.keep Kq2 nin0).keep Kq11 (ninS (ne_exa Ef0 El1 (by decide)) nin0)).keep Kq19 (ninS (ne_exa Ef0 El0 (by decide)) nin0))
  have f22 := (((Ef0.keep Kq2).keep Kq11).keep Kq19)
  refine own_putF X19 hx hZ hown (host := "") (Or.inl (hw _ (List.mem_of_getElem? (i := 136) rfl))) Via.refl rfl f21 f22 (Or.inl (hw _ (List.mem_of_getElem? (i := 137) rfl))) (hw _ (List.mem_of_getElem? (i := 31) rfl)) (ty := .long) (by decide) rfl rfl N19 g_a1 (hb hby own_d_prog_40_method_8_code_59) rfl ?_
  intro T23 h23 X23 e23 W23 N23
  have K24 := K20.wr W23 (Or.inl (List.mem_of_getElem? (i := 0) rfl))
  have f25 := f21.same W23
  refine own_aloadN X23 hx (hb hby own_d_prog_40_method_8_code_62) rfl rfl rfl ?_
  refine own_iconst X23 hx (1 : Int32) (hb hby own_d_prog_40_method_8_code_63) (by decide) rfl ?_
  have f26 := ((((Sf0.keep Kq2 nin0).keep Kq11 (ninS (ne_exa Ef0 El1 (by decide)) nin0)).keep Kq19 (ninS (ne_exa Ef0 El0 (by decide)) nin0)).other W23 (Or.inr (slot_ne (Or.inl (hw _ (List.mem_of_getElem? (i := 64) rfl))) (Or.inl (hw _ (List.mem_of_getElem? (i := 137) rfl))) (by decide) (t := .boolean) (t' := .long) (by decide) (by decide))))
  have f27 := (f22.wr W23)
  refine own_putFN X23 hx hZ hown (hw _ (List.mem_of_getElem? (i := 63) rfl)) Via.refl e23 (.int (1 : Int32)) f26 f27 (Or.inl (hw _ (List.mem_of_getElem? (i := 64) rfl))) (hw _ (List.mem_of_getElem? (i := 31) rfl)) (ty := .boolean) (by decide) rfl rfl N23 g_a1 (hb hby own_d_prog_40_method_8_code_64) rfl ?_
  intro T28 h28 X28 e28 W28 N28
  have K29 := K24.wr W28 (Or.inl (List.mem_of_getElem? (i := 0) rfl))
  have f30 := f26.same W28
  refine own_aloadN X28 hx (hb hby own_d_prog_40_method_8_code_67) rfl rfl rfl ?_
  refine own_lconst X28 hx (0 : Int64) (hb hby own_d_prog_40_method_8_code_68) (by decide) rfl ?_
  have f31 := (((((Cf0.keep Kq2 nin0).keep Kq11 (ninS (ne_exa Ef0 El1 (by decide)) nin0)).keep Kq19 (ninS (ne_exa Ef0 El0 (by decide)) nin0)).other W23 (Or.inr (slot_ne (Or.inl (hw _ (List.mem_of_getElem? (i := 77) rfl))) (Or.inl (hw _ (List.mem_of_getElem? (i := 137) rfl))) (by decide) (t := .long) (t' := .long) (by decide) (by decide)))).other W28 (Or.inr (slot_ne (Or.inl (hw _ (List.mem_of_getElem? (i := 77) rfl))) (Or.inl (hw _ (List.mem_of_getElem? (i := 64) rfl))) (by decide) (t := .long) (t' := .boolean) (by decide) (by decide))))
  have f32 := (f27.wr W28)
  refine own_putF X28 hx hZ hown (host := "") (Or.inl (hw _ (List.mem_of_getElem? (i := 76) rfl))) Via.refl e28 f31 f32 (Or.inl (hw _ (List.mem_of_getElem? (i := 77) rfl))) (hw _ (List.mem_of_getElem? (i := 31) rfl)) (ty := .long) (by decide) rfl rfl N28 g_a1 (hb hby own_d_prog_40_method_8_code_69) rfl ?_
  intro T33 h33 X33 e33 W33 N33
  have K34 := K29.wr W33 (Or.inl (List.mem_of_getElem? (i := 0) rfl))
  have f35 := f31.same W33
  have f36 := (f32.wr W33)
  exact own_ret X33 hx hlocks hret (hb hby own_d_prog_40_method_8_code_72) (by decide) (by decide) ⟨rfl, N33, by rw [e33]; exact ⟨K34, f36, f35⟩⟩
set_option maxRecDepth 65536 in
set_option maxHeartbeats 40000000 in
theorem own_close_1 (l : Launch) (Z : State) (a0 : Array Value) (hw : ∀ d ∈ tables_1, d.before a0 Z = true) (a1 lb lr de ed x0_ : Addr) (kd ke : ClassId) (mc mr : Int32) (h0 : Heap) (n0 : Nat) (O0 : Old Z n0 h0) (SD : Sta Z Z.heap "java/util/ArrayList" "DEFAULTCAPACITY_EMPTY_ELEMENTDATA" "[Ljava/lang/Object;" (.ref de)) (VD : Arv Z Z.heap de kd (.object "java/lang/Object") (0 : Int32) [] .null) (g_a1 : n0 ≤ a1) (g_lb : n0 ≤ lb) (g_lr : n0 ≤ lr) (g_ed : n0 ≤ ed) (hne : lb ≠ lr) (FF : Exa Z h0 a1 "com/example/ledgerleaf/ledgerleaf/Findings" ∧ Fld Z h0 a1 "com/example/ledgerleaf/ledgerleaf/Findings" "m_aBatch" "Ljava/util/List;" (.ref lb) ∧ Fld Z h0 a1 "com/example/ledgerleaf/ledgerleaf/Findings" "m_aRuns" "Ljava/util/List;" (.ref lr) ∧ Fld Z h0 a1 "com/example/ledgerleaf/ledgerleaf/Findings" "m_nBatch" "I" (.int (1000 : Int32)) ∧ Fld Z h0 a1 "com/example/ledgerleaf/ledgerleaf/Findings" "m_bSorted" "Z" (.int (0 : Int32)) ∧ Fld Z h0 a1 "com/example/ledgerleaf/ledgerleaf/Findings" "m_nCount" "J" (.long (1 : Int64)) ∧ Fld Z h0 a1 "com/example/ledgerleaf/ledgerleaf/Findings" "m_nBatchLength" "J" (.long (1 : Int64))) (L0 : own_AL Z h0 lb ed mc 1) (L1 : own_AL Z h0 lr de mr 0) (V0 : Arv Z h0 ed ke (.object "java/lang/Object") (10 : Int32) [(.ref x0_), .null, .null, .null, .null, .null, .null, .null, .null, .null] .null) :
    own_Met l (⟨"com/example/ledgerleaf/ledgerleaf/Findings", "close", "()V"⟩ : MethodName) prog_40_method_8_code 3 none ({ frames := 3, cells := 1, slots := 4, locals := 38 } : Room) Z #[(.ref a1)] h0 (fun v h L => v = none ∧ Fr n0 L ∧ Keep h0 h [a1, lb, lr, ed] ∧ Exa Z h a1 "com/example/ledgerleaf/ledgerleaf/Findings" ∧ Fld Z h a1 "com/example/ledgerleaf/ledgerleaf/Findings" "m_nCount" "J" (.long (0 : Int64))) := by
  refine own_met (plainFor_of_name own_pn_com_example_ledgerleaf_ledgerleaf_Findings) ?_
  intro p e s m below meth c T0 hx hby hml hZ hown hnm hret hlocks X0 e0 hh0
  have ef : entryFrame m #[(.ref a1)] 3 = mkF m 0 #[.val (.ref a1), .unset, .unset] [] := by first | (simp [entryFrame, mkF, argsToLocals, Value.category]; done) | rfl
  refine own_entry ef ?_
  have N0 := Fr.nil n0
  obtain ⟨Ef0, Bf0, Rf0, Nf0, Sf0, Cf0, Lf0⟩ := FF
  have K0 := Keep.refl h0 [a1, lb, lr, ed]
  obtain ⟨El0, Ml0, Dl0, Sl0⟩ := L0
  obtain ⟨El1, Ml1, Dl1, Sl1⟩ := L1
  refine own_aloadN X0 hx (hb hby own_d_prog_40_method_8_code_0) rfl rfl rfl ?_
  refine own_getF X0 hx hZ hown (host := "") (Or.inl (hw _ (List.mem_of_getElem? (i := 65) rfl))) Via.refl e0 Rf0 (hb hby own_d_prog_40_method_8_code_1) rfl ?_
  intro T1 X1 e1
  refine own_iface X1 hx hZ (xi := (⟨"java/util/List", "iterator", "()Ljava/util/Iterator;"⟩ : MethodName)) (y := (⟨"java/util/ArrayList", "iterator", "()Ljava/util/Iterator;"⟩ : MethodName)) hown (hw _ (List.mem_of_getElem? (i := 88) rfl)) (hw _ (List.mem_of_getElem? (i := 89) rfl)) (mvT hZ (hw _ (List.mem_of_getElem? (i := 90) rfl))) (hw _ (List.mem_of_getElem? (i := 91) rfl)) (hw _ (List.mem_of_getElem? (i := 92) rfl)) (hw _ (List.mem_of_getElem? (i := 93) rfl)) (hw _ (List.mem_of_getElem? (i := 94) rfl)) (hw _ (List.mem_of_getElem? (i := 95) rfl)) (hw _ (List.mem_of_getElem? (i := 39) rfl)) (hw _ (List.mem_of_getElem? (i := 96) rfl)) (by decide) e1 (by decide) (W := 0) (by decide) (by decide) (by decide) [] [] (by rw [hml]; rfl) El1 (own_iter l Z a0 hw lr mr h0 n0 O0 El1 Ml1) own_pd9 rfl rfl rfl (hb hby own_d_prog_40_method_8_code_4) rfl ?_
  intro v2 T2 L2 X2 hQ2
  obtain ⟨b2, rfl, Nq2, Kq2, g_b2, sz_b2, Ei2, Ti2, Ci2⟩ := hQ2
  have sz_b2 := Nat.le_trans K0.1 sz_b2
  have N2 := Fr.app N0 Nq2
  have K3 := K0.trans Kq2 all0
  show own_Ends p e below _ (T2.setTop (mkF m 9 #[.val (.ref a1), .unset, .unset] [(.ref b2)]))
  refine own_astoreN X2 hx #[.val (.ref a1), .val (.ref b2), .unset] (hb hby own_d_prog_40_method_8_code_9) rfl rfl rfl ?_
  refine own_aloadN X2 hx (hb hby own_d_prog_40_method_8_code_10) rfl rfl rfl ?_
  have f4 := (Sl1.keep Kq2 nin0)
  refine own_iface X2 hx hZ (xi := (⟨"java/util/Iterator", "hasNext", "()Z"⟩ : MethodName)) (y := (⟨"java/util/ArrayList$Itr", "hasNext", "()Z"⟩ : MethodName)) hown (hw _ (List.mem_of_getElem? (i := 113) rfl)) (hw _ (List.mem_of_getElem? (i := 114) rfl)) (mvT hZ (hw _ (List.mem_of_getElem? (i := 115) rfl))) (hw _ (List.mem_of_getElem? (i := 116) rfl)) (hw _ (List.mem_of_getElem? (i := 117) rfl)) (hw _ (List.mem_of_getElem? (i := 118) rfl)) (hw _ (List.mem_of_getElem? (i := 119) rfl)) (hw _ (List.mem_of_getElem? (i := 120) rfl)) (hw _ (List.mem_of_getElem? (i := 99) rfl)) (hw _ (List.mem_of_getElem? (i := 121) rfl)) (by decide) rfl (by decide) (W := 0) (by decide) (by decide) (by decide) [] [] (by rw [hml]; rfl) Ei2 (own_hasn l Z a0 hw b2 lr T2.heap n0 Ci2 Ti2 f4) own_pd10 rfl rfl rfl (hb hby own_d_prog_40_method_8_code_11) rfl ?_
  intro v5 T5 L5 X5 hQ5
  obtain ⟨rfl, Nq5, hh5⟩ := hQ5
  have N5 := Fr.app N2 Nq5
  show own_Ends p e below _ (T5.setTop (mkF m 16 #[.val (.ref a1), .val (.ref b2), .unset] [(.int (0 : Int32))]))
  refine own_ifT X5 hx (hb hby own_d_prog_40_method_8_code_16) (by decide) rfl (by decide) ?_
  refine own_aloadN X5 hx (hb hby own_d_prog_40_method_8_code_39) rfl rfl rfl ?_
  have f6 := (Rf0.keep Kq2 nin0)
  refine own_getF X5 hx hZ hown (host := "") (Or.inl (hw _ (List.mem_of_getElem? (i := 65) rfl))) Via.refl hh5 f6 (hb hby own_d_prog_40_method_8_code_40) rfl ?_
  intro T7 X7 e7
  have f8 := (El1.keep Kq2)
  have f9 := (Ml1.keep Kq2 nin0)
  have f10 := (Dl1.keep Kq2 nin0)
  refine own_iface X7 hx hZ (xi := (⟨"java/util/List", "clear", "()V"⟩ : MethodName)) (y := (⟨"java/util/ArrayList", "clear", "()V"⟩ : MethodName)) hown (hw _ (List.mem_of_getElem? (i := 126) rfl)) (hw _ (List.mem_of_getElem? (i := 127) rfl)) (mvT hZ (hw _ (List.mem_of_getElem? (i := 128) rfl))) (hw _ (List.mem_of_getElem? (i := 129) rfl)) (hw _ (List.mem_of_getElem? (i := 130) rfl)) (hw _ (List.mem_of_getElem? (i := 131) rfl)) (hw _ (List.mem_of_getElem? (i := 132) rfl)) (hw _ (List.mem_of_getElem? (i := 95) rfl)) (hw _ (List.mem_of_getElem? (i := 39) rfl)) (hw _ (List.mem_of_getElem? (i := 133) rfl)) (by decide) e7 (by decide) (W := 0) (by decide) (by decide) (by decide) [] [] (by rw [hml]; rfl) f8 (own_clear_0 l Z a0 hw lr de kd mr T2.heap n0 g_lr ⟨f8, f9, f10, f4⟩) own_pd0 rfl rfl rfl (hb hby own_d_prog_40_method_8_code_43) rfl ?_
  intro v11 T11 L11 X11 hQ11
  obtain ⟨rfl, Nq11, Kq11, Al11⟩ := hQ11
  have N11 := Fr.app N5 Nq11
  have K12 := K3.trans Kq11 (allS (Or.inl (List.mem_of_getElem? (i := 2) rfl)) all0)
  obtain ⟨El11, Ml11, Dl11, Sl11⟩ := Al11
  show own_Ends p e below _ (T11.setTop (mkF m 48 #[.val (.ref a1), .val (.ref b2), .unset] []))
  refine own_aloadN X11 hx (hb hby own_d_prog_40_method_8_code_48) rfl rfl rfl ?_
  have f13 := ((Bf0.keep Kq2 nin0).keep Kq11 (ninS (ne_exa Ef0 El1 (by decide)) nin0))
  refine own_getF X11 hx hZ hown (host := "") (Or.inl (hw _ (List.mem_of_getElem? (i := 61) rfl))) Via.refl rfl f13 (hb hby own_d_prog_40_method_8_code_49) rfl ?_
  intro T14 X14 e14
  have f15 := ((El0.keep Kq2).keep Kq11)
  have f16 := ((Ml0.keep Kq2 nin0).keep Kq11 (ninS hne nin0))
  have f17 := ((Dl0.keep Kq2 nin0).keep Kq11 (ninS hne nin0))
  have f18 := ((Sl0.keep Kq2 nin0).keep Kq11 (ninS hne nin0))
  have f19 := ((V0.keep Kq2 nin0).keep Kq11 (ninS (Ne.symm (Exa.neArv El1 V0 (hw _ (List.mem_of_getElem? (i := 38) rfl)))) nin0))
  refine own_iface X14 hx hZ (xi := (⟨"java/util/List", "clear", "()V"⟩ : MethodName)) (y := (⟨"java/util/ArrayList", "clear", "()V"⟩ : MethodName)) hown (hw _ (List.mem_of_getElem? (i := 126) rfl)) (hw _ (List.mem_of_getElem? (i := 127) rfl)) (mvT hZ (hw _ (List.mem_of_getElem? (i := 128) rfl))) (hw _ (List.mem_of_getElem? (i := 129) rfl)) (hw _ (List.mem_of_getElem? (i := 130) rfl)) (hw _ (List.mem_of_getElem? (i := 131) rfl)) (hw _ (List.mem_of_getElem? (i := 132) rfl)) (hw _ (List.mem_of_getElem? (i := 95) rfl)) (hw _ (List.mem_of_getElem? (i := 39) rfl)) (hw _ (List.mem_of_getElem? (i := 133) rfl)) (by decide) e14 (by decide) (W := 0) (by decide) (by decide) (by decide) [] [] (by rw [hml]; rfl) f15 (own_clear_1 l Z a0 hw lb ed x0_ ke mc T11.heap n0 g_lb ⟨f15, f16, f17, f18⟩ g_ed f19) own_pd0 rfl rfl rfl (hb hby own_d_prog_40_method_8_code_52) rfl ?_
  intro v20 T20 L20 X20 hQ20
  obtain ⟨rfl, Nq20, Kq20, Al20⟩ := hQ20
  have N20 := Fr.app N11 Nq20
  have K21 := K12.trans Kq20 (allS (Or.inl (List.mem_of_getElem? (i := 1) rfl)) (allS (Or.inl (List.mem_of_getElem? (i := 3) rfl)) all0))
  obtain ⟨El20, Ml20, Dl20, Sl20⟩ := Al20
  show own_Ends p e below _ (T20.setTop (mkF m 57 #[.val (.ref a1), .val (.ref b2), .unset] []))
  refine own_aloadN X20 hx (hb hby own_d_prog_40_method_8_code_57) rfl rfl rfl ?_
  refine own_lconst X20 hx (0 : Int64) (hb hby own_d_prog_40_method_8_code_58) (by decide) rfl ?_
  have f22 := (((Lf0.keep Kq2 nin0).keep Kq11 (ninS (ne_exa Ef0 El1 (by decide)) nin0)).keep Kq20 (ninS (ne_exa Ef0 El0 (by decide)) (ninS (Exa.neArv Ef0 V0 (hw _ (List.mem_of_getElem? (i := 31) rfl))) nin0)))
  have f23 := (((Ef0.keep Kq2).keep Kq11).keep Kq20)
  refine own_putF X20 hx hZ hown (host := "") (Or.inl (hw _ (List.mem_of_getElem? (i := 136) rfl))) Via.refl rfl f22 f23 (Or.inl (hw _ (List.mem_of_getElem? (i := 137) rfl))) (hw _ (List.mem_of_getElem? (i := 31) rfl)) (ty := .long) (by decide) rfl rfl N20 g_a1 (hb hby own_d_prog_40_method_8_code_59) rfl ?_
  intro T24 h24 X24 e24 W24 N24
  have K25 := K21.wr W24 (Or.inl (List.mem_of_getElem? (i := 0) rfl))
  have f26 := f22.same W24
  refine own_aloadN X24 hx (hb hby own_d_prog_40_method_8_code_62) rfl rfl rfl ?_
  refine own_iconst X24 hx (1 : Int32) (hb hby own_d_prog_40_method_8_code_63) (by decide) rfl ?_
  have f27 := ((((Sf0.keep Kq2 nin0).keep Kq11 (ninS (ne_exa Ef0 El1 (by decide)) nin0)).keep Kq20 (ninS (ne_exa Ef0 El0 (by decide)) (ninS (Exa.neArv Ef0 V0 (hw _ (List.mem_of_getElem? (i := 31) rfl))) nin0))).other W24 (Or.inr (slot_ne (Or.inl (hw _ (List.mem_of_getElem? (i := 64) rfl))) (Or.inl (hw _ (List.mem_of_getElem? (i := 137) rfl))) (by decide) (t := .boolean) (t' := .long) (by decide) (by decide))))
  have f28 := (f23.wr W24)
  refine own_putFN X24 hx hZ hown (hw _ (List.mem_of_getElem? (i := 63) rfl)) Via.refl e24 (.int (1 : Int32)) f27 f28 (Or.inl (hw _ (List.mem_of_getElem? (i := 64) rfl))) (hw _ (List.mem_of_getElem? (i := 31) rfl)) (ty := .boolean) (by decide) rfl rfl N24 g_a1 (hb hby own_d_prog_40_method_8_code_64) rfl ?_
  intro T29 h29 X29 e29 W29 N29
  have K30 := K25.wr W29 (Or.inl (List.mem_of_getElem? (i := 0) rfl))
  have f31 := f27.same W29
  refine own_aloadN X29 hx (hb hby own_d_prog_40_method_8_code_67) rfl rfl rfl ?_
  refine own_lconst X29 hx (0 : Int64) (hb hby own_d_prog_40_method_8_code_68) (by decide) rfl ?_
  have f32 := (((((Cf0.keep Kq2 nin0).keep Kq11 (ninS (ne_exa Ef0 El1 (by decide)) nin0)).keep Kq20 (ninS (ne_exa Ef0 El0 (by decide)) (ninS (Exa.neArv Ef0 V0 (hw _ (List.mem_of_getElem? (i := 31) rfl))) nin0))).other W24 (Or.inr (slot_ne (Or.inl (hw _ (List.mem_of_getElem? (i := 77) rfl))) (Or.inl (hw _ (List.mem_of_getElem? (i := 137) rfl))) (by decide) (t := .long) (t' := .long) (by decide) (by decide)))).other W29 (Or.inr (slot_ne (Or.inl (hw _ (List.mem_of_getElem? (i := 77) rfl))) (Or.inl (hw _ (List.mem_of_getElem? (i := 64) rfl))) (by decide) (t := .long) (t' := .boolean) (by decide) (by decide))))
  have f33 := (f28.wr W29)
  refine own_putF X29 hx hZ hown (host := "") (Or.inl (hw _ (List.mem_of_getElem? (i := 76) rfl))) Via.refl e29 f32 f33 (Or.inl (hw _ (List.mem_of_getElem? (i := 77) rfl))) (hw _ (List.mem_of_getElem? (i := 31) rfl)) (ty := .long) (by decide) rfl rfl N29 g_a1 (hb hby own_d_prog_40_method_8_code_69) rfl ?_
  intro T34 h34 X34 e34 W34 N34
  have K35 := K30.wr W34 (Or.inl (List.mem_of_getElem? (i := 0) rfl))
  have f36 := f32.same W34
  have f37 := (f33.wr W34)
  exact own_ret X34 hx hlocks hret (hb hby own_d_prog_40_method_8_code_72) (by decide) (by decide) ⟨rfl, N34, by rw [e34]; exact ⟨K35, f37, f36⟩⟩
set_option maxRecDepth 65536 in
set_option maxHeartbeats 40000000 in
theorem own_close_2 (l : Launch) (Z : State) (a0 : Array Value) (hw : ∀ d ∈ tables_1, d.before a0 Z = true) (a1 lb lr de ed x0_ x1_ : Addr) (kd ke : ClassId) (mc mr : Int32) (h0 : Heap) (n0 : Nat) (O0 : Old Z n0 h0) (SD : Sta Z Z.heap "java/util/ArrayList" "DEFAULTCAPACITY_EMPTY_ELEMENTDATA" "[Ljava/lang/Object;" (.ref de)) (VD : Arv Z Z.heap de kd (.object "java/lang/Object") (0 : Int32) [] .null) (g_a1 : n0 ≤ a1) (g_lb : n0 ≤ lb) (g_lr : n0 ≤ lr) (g_ed : n0 ≤ ed) (hne : lb ≠ lr) (FF : Exa Z h0 a1 "com/example/ledgerleaf/ledgerleaf/Findings" ∧ Fld Z h0 a1 "com/example/ledgerleaf/ledgerleaf/Findings" "m_aBatch" "Ljava/util/List;" (.ref lb) ∧ Fld Z h0 a1 "com/example/ledgerleaf/ledgerleaf/Findings" "m_aRuns" "Ljava/util/List;" (.ref lr) ∧ Fld Z h0 a1 "com/example/ledgerleaf/ledgerleaf/Findings" "m_nBatch" "I" (.int (1000 : Int32)) ∧ Fld Z h0 a1 "com/example/ledgerleaf/ledgerleaf/Findings" "m_bSorted" "Z" (.int (0 : Int32)) ∧ Fld Z h0 a1 "com/example/ledgerleaf/ledgerleaf/Findings" "m_nCount" "J" (.long (2 : Int64)) ∧ Fld Z h0 a1 "com/example/ledgerleaf/ledgerleaf/Findings" "m_nBatchLength" "J" (.long (2 : Int64))) (L0 : own_AL Z h0 lb ed mc 2) (L1 : own_AL Z h0 lr de mr 0) (V0 : Arv Z h0 ed ke (.object "java/lang/Object") (10 : Int32) [(.ref x0_), (.ref x1_), .null, .null, .null, .null, .null, .null, .null, .null] .null) :
    own_Met l (⟨"com/example/ledgerleaf/ledgerleaf/Findings", "close", "()V"⟩ : MethodName) prog_40_method_8_code 3 none ({ frames := 3, cells := 1, slots := 4, locals := 38 } : Room) Z #[(.ref a1)] h0 (fun v h L => v = none ∧ Fr n0 L ∧ Keep h0 h [a1, lb, lr, ed] ∧ Exa Z h a1 "com/example/ledgerleaf/ledgerleaf/Findings" ∧ Fld Z h a1 "com/example/ledgerleaf/ledgerleaf/Findings" "m_nCount" "J" (.long (0 : Int64))) := by
  refine own_met (plainFor_of_name own_pn_com_example_ledgerleaf_ledgerleaf_Findings) ?_
  intro p e s m below meth c T0 hx hby hml hZ hown hnm hret hlocks X0 e0 hh0
  have ef : entryFrame m #[(.ref a1)] 3 = mkF m 0 #[.val (.ref a1), .unset, .unset] [] := by first | (simp [entryFrame, mkF, argsToLocals, Value.category]; done) | rfl
  refine own_entry ef ?_
  have N0 := Fr.nil n0
  obtain ⟨Ef0, Bf0, Rf0, Nf0, Sf0, Cf0, Lf0⟩ := FF
  have K0 := Keep.refl h0 [a1, lb, lr, ed]
  obtain ⟨El0, Ml0, Dl0, Sl0⟩ := L0
  obtain ⟨El1, Ml1, Dl1, Sl1⟩ := L1
  refine own_aloadN X0 hx (hb hby own_d_prog_40_method_8_code_0) rfl rfl rfl ?_
  refine own_getF X0 hx hZ hown (host := "") (Or.inl (hw _ (List.mem_of_getElem? (i := 65) rfl))) Via.refl e0 Rf0 (hb hby own_d_prog_40_method_8_code_1) rfl ?_
  intro T1 X1 e1
  refine own_iface X1 hx hZ (xi := (⟨"java/util/List", "iterator", "()Ljava/util/Iterator;"⟩ : MethodName)) (y := (⟨"java/util/ArrayList", "iterator", "()Ljava/util/Iterator;"⟩ : MethodName)) hown (hw _ (List.mem_of_getElem? (i := 88) rfl)) (hw _ (List.mem_of_getElem? (i := 89) rfl)) (mvT hZ (hw _ (List.mem_of_getElem? (i := 90) rfl))) (hw _ (List.mem_of_getElem? (i := 91) rfl)) (hw _ (List.mem_of_getElem? (i := 92) rfl)) (hw _ (List.mem_of_getElem? (i := 93) rfl)) (hw _ (List.mem_of_getElem? (i := 94) rfl)) (hw _ (List.mem_of_getElem? (i := 95) rfl)) (hw _ (List.mem_of_getElem? (i := 39) rfl)) (hw _ (List.mem_of_getElem? (i := 96) rfl)) (by decide) e1 (by decide) (W := 0) (by decide) (by decide) (by decide) [] [] (by rw [hml]; rfl) El1 (own_iter l Z a0 hw lr mr h0 n0 O0 El1 Ml1) own_pd9 rfl rfl rfl (hb hby own_d_prog_40_method_8_code_4) rfl ?_
  intro v2 T2 L2 X2 hQ2
  obtain ⟨b2, rfl, Nq2, Kq2, g_b2, sz_b2, Ei2, Ti2, Ci2⟩ := hQ2
  have sz_b2 := Nat.le_trans K0.1 sz_b2
  have N2 := Fr.app N0 Nq2
  have K3 := K0.trans Kq2 all0
  show own_Ends p e below _ (T2.setTop (mkF m 9 #[.val (.ref a1), .unset, .unset] [(.ref b2)]))
  refine own_astoreN X2 hx #[.val (.ref a1), .val (.ref b2), .unset] (hb hby own_d_prog_40_method_8_code_9) rfl rfl rfl ?_
  refine own_aloadN X2 hx (hb hby own_d_prog_40_method_8_code_10) rfl rfl rfl ?_
  have f4 := (Sl1.keep Kq2 nin0)
  refine own_iface X2 hx hZ (xi := (⟨"java/util/Iterator", "hasNext", "()Z"⟩ : MethodName)) (y := (⟨"java/util/ArrayList$Itr", "hasNext", "()Z"⟩ : MethodName)) hown (hw _ (List.mem_of_getElem? (i := 113) rfl)) (hw _ (List.mem_of_getElem? (i := 114) rfl)) (mvT hZ (hw _ (List.mem_of_getElem? (i := 115) rfl))) (hw _ (List.mem_of_getElem? (i := 116) rfl)) (hw _ (List.mem_of_getElem? (i := 117) rfl)) (hw _ (List.mem_of_getElem? (i := 118) rfl)) (hw _ (List.mem_of_getElem? (i := 119) rfl)) (hw _ (List.mem_of_getElem? (i := 120) rfl)) (hw _ (List.mem_of_getElem? (i := 99) rfl)) (hw _ (List.mem_of_getElem? (i := 121) rfl)) (by decide) rfl (by decide) (W := 0) (by decide) (by decide) (by decide) [] [] (by rw [hml]; rfl) Ei2 (own_hasn l Z a0 hw b2 lr T2.heap n0 Ci2 Ti2 f4) own_pd10 rfl rfl rfl (hb hby own_d_prog_40_method_8_code_11) rfl ?_
  intro v5 T5 L5 X5 hQ5
  obtain ⟨rfl, Nq5, hh5⟩ := hQ5
  have N5 := Fr.app N2 Nq5
  show own_Ends p e below _ (T5.setTop (mkF m 16 #[.val (.ref a1), .val (.ref b2), .unset] [(.int (0 : Int32))]))
  refine own_ifT X5 hx (hb hby own_d_prog_40_method_8_code_16) (by decide) rfl (by decide) ?_
  refine own_aloadN X5 hx (hb hby own_d_prog_40_method_8_code_39) rfl rfl rfl ?_
  have f6 := (Rf0.keep Kq2 nin0)
  refine own_getF X5 hx hZ hown (host := "") (Or.inl (hw _ (List.mem_of_getElem? (i := 65) rfl))) Via.refl hh5 f6 (hb hby own_d_prog_40_method_8_code_40) rfl ?_
  intro T7 X7 e7
  have f8 := (El1.keep Kq2)
  have f9 := (Ml1.keep Kq2 nin0)
  have f10 := (Dl1.keep Kq2 nin0)
  refine own_iface X7 hx hZ (xi := (⟨"java/util/List", "clear", "()V"⟩ : MethodName)) (y := (⟨"java/util/ArrayList", "clear", "()V"⟩ : MethodName)) hown (hw _ (List.mem_of_getElem? (i := 126) rfl)) (hw _ (List.mem_of_getElem? (i := 127) rfl)) (mvT hZ (hw _ (List.mem_of_getElem? (i := 128) rfl))) (hw _ (List.mem_of_getElem? (i := 129) rfl)) (hw _ (List.mem_of_getElem? (i := 130) rfl)) (hw _ (List.mem_of_getElem? (i := 131) rfl)) (hw _ (List.mem_of_getElem? (i := 132) rfl)) (hw _ (List.mem_of_getElem? (i := 95) rfl)) (hw _ (List.mem_of_getElem? (i := 39) rfl)) (hw _ (List.mem_of_getElem? (i := 133) rfl)) (by decide) e7 (by decide) (W := 0) (by decide) (by decide) (by decide) [] [] (by rw [hml]; rfl) f8 (own_clear_0 l Z a0 hw lr de kd mr T2.heap n0 g_lr ⟨f8, f9, f10, f4⟩) own_pd0 rfl rfl rfl (hb hby own_d_prog_40_method_8_code_43) rfl ?_
  intro v11 T11 L11 X11 hQ11
  obtain ⟨rfl, Nq11, Kq11, Al11⟩ := hQ11
  have N11 := Fr.app N5 Nq11
  have K12 := K3.trans Kq11 (allS (Or.inl (List.mem_of_getElem? (i := 2) rfl)) all0)
  obtain ⟨El11, Ml11, Dl11, Sl11⟩ := Al11
  show own_Ends p e below _ (T11.setTop (mkF m 48 #[.val (.ref a1), .val (.ref b2), .unset] []))
  refine own_aloadN X11 hx (hb hby own_d_prog_40_method_8_code_48) rfl rfl rfl ?_
  have f13 := ((Bf0.keep Kq2 nin0).keep Kq11 (ninS (ne_exa Ef0 El1 (by decide)) nin0))
  refine own_getF X11 hx hZ hown (host := "") (Or.inl (hw _ (List.mem_of_getElem? (i := 61) rfl))) Via.refl rfl f13 (hb hby own_d_prog_40_method_8_code_49) rfl ?_
  intro T14 X14 e14
  have f15 := ((El0.keep Kq2).keep Kq11)
  have f16 := ((Ml0.keep Kq2 nin0).keep Kq11 (ninS hne nin0))
  have f17 := ((Dl0.keep Kq2 nin0).keep Kq11 (ninS hne nin0))
  have f18 := ((Sl0.keep Kq2 nin0).keep Kq11 (ninS hne nin0))
  have f19 := ((V0.keep Kq2 nin0).keep Kq11 (ninS (Ne.symm (Exa.neArv El1 V0 (hw _ (List.mem_of_getElem? (i := 38) rfl)))) nin0))
  refine own_iface X14 hx hZ (xi := (⟨"java/util/List", "clear", "()V"⟩ : MethodName)) (y := (⟨"java/util/ArrayList", "clear", "()V"⟩ : MethodName)) hown (hw _ (List.mem_of_getElem? (i := 126) rfl)) (hw _ (List.mem_of_getElem? (i := 127) rfl)) (mvT hZ (hw _ (List.mem_of_getElem? (i := 128) rfl))) (hw _ (List.mem_of_getElem? (i := 129) rfl)) (hw _ (List.mem_of_getElem? (i := 130) rfl)) (hw _ (List.mem_of_getElem? (i := 131) rfl)) (hw _ (List.mem_of_getElem? (i := 132) rfl)) (hw _ (List.mem_of_getElem? (i := 95) rfl)) (hw _ (List.mem_of_getElem? (i := 39) rfl)) (hw _ (List.mem_of_getElem? (i := 133) rfl)) (by decide) e14 (by decide) (W := 0) (by decide) (by decide) (by decide) [] [] (by rw [hml]; rfl) f15 (own_clear_2 l Z a0 hw lb ed x0_ x1_ ke mc T11.heap n0 g_lb ⟨f15, f16, f17, f18⟩ g_ed f19) own_pd0 rfl rfl rfl (hb hby own_d_prog_40_method_8_code_52) rfl ?_
  intro v20 T20 L20 X20 hQ20
  obtain ⟨rfl, Nq20, Kq20, Al20⟩ := hQ20
  have N20 := Fr.app N11 Nq20
  have K21 := K12.trans Kq20 (allS (Or.inl (List.mem_of_getElem? (i := 1) rfl)) (allS (Or.inl (List.mem_of_getElem? (i := 3) rfl)) all0))
  obtain ⟨El20, Ml20, Dl20, Sl20⟩ := Al20
  show own_Ends p e below _ (T20.setTop (mkF m 57 #[.val (.ref a1), .val (.ref b2), .unset] []))
  refine own_aloadN X20 hx (hb hby own_d_prog_40_method_8_code_57) rfl rfl rfl ?_
  refine own_lconst X20 hx (0 : Int64) (hb hby own_d_prog_40_method_8_code_58) (by decide) rfl ?_
  have f22 := (((Lf0.keep Kq2 nin0).keep Kq11 (ninS (ne_exa Ef0 El1 (by decide)) nin0)).keep Kq20 (ninS (ne_exa Ef0 El0 (by decide)) (ninS (Exa.neArv Ef0 V0 (hw _ (List.mem_of_getElem? (i := 31) rfl))) nin0)))
  have f23 := (((Ef0.keep Kq2).keep Kq11).keep Kq20)
  refine own_putF X20 hx hZ hown (host := "") (Or.inl (hw _ (List.mem_of_getElem? (i := 136) rfl))) Via.refl rfl f22 f23 (Or.inl (hw _ (List.mem_of_getElem? (i := 137) rfl))) (hw _ (List.mem_of_getElem? (i := 31) rfl)) (ty := .long) (by decide) rfl rfl N20 g_a1 (hb hby own_d_prog_40_method_8_code_59) rfl ?_
  intro T24 h24 X24 e24 W24 N24
  have K25 := K21.wr W24 (Or.inl (List.mem_of_getElem? (i := 0) rfl))
  have f26 := f22.same W24
  refine own_aloadN X24 hx (hb hby own_d_prog_40_method_8_code_62) rfl rfl rfl ?_
  refine own_iconst X24 hx (1 : Int32) (hb hby own_d_prog_40_method_8_code_63) (by decide) rfl ?_
  have f27 := ((((Sf0.keep Kq2 nin0).keep Kq11 (ninS (ne_exa Ef0 El1 (by decide)) nin0)).keep Kq20 (ninS (ne_exa Ef0 El0 (by decide)) (ninS (Exa.neArv Ef0 V0 (hw _ (List.mem_of_getElem? (i := 31) rfl))) nin0))).other W24 (Or.inr (slot_ne (Or.inl (hw _ (List.mem_of_getElem? (i := 64) rfl))) (Or.inl (hw _ (List.mem_of_getElem? (i := 137) rfl))) (by decide) (t := .boolean) (t' := .long) (by decide) (by decide))))
  have f28 := (f23.wr W24)
  refine own_putFN X24 hx hZ hown (hw _ (List.mem_of_getElem? (i := 63) rfl)) Via.refl e24 (.int (1 : Int32)) f27 f28 (Or.inl (hw _ (List.mem_of_getElem? (i := 64) rfl))) (hw _ (List.mem_of_getElem? (i := 31) rfl)) (ty := .boolean) (by decide) rfl rfl N24 g_a1 (hb hby own_d_prog_40_method_8_code_64) rfl ?_
  intro T29 h29 X29 e29 W29 N29
  have K30 := K25.wr W29 (Or.inl (List.mem_of_getElem? (i := 0) rfl))
  have f31 := f27.same W29
  refine own_aloadN X29 hx (hb hby own_d_prog_40_method_8_code_67) rfl rfl rfl ?_
  refine own_lconst X29 hx (0 : Int64) (hb hby own_d_prog_40_method_8_code_68) (by decide) rfl ?_
  have f32 := (((((Cf0.keep Kq2 nin0).keep Kq11 (ninS (ne_exa Ef0 El1 (by decide)) nin0)).keep Kq20 (ninS (ne_exa Ef0 El0 (by decide)) (ninS (Exa.neArv Ef0 V0 (hw _ (List.mem_of_getElem? (i := 31) rfl))) nin0))).other W24 (Or.inr (slot_ne (Or.inl (hw _ (List.mem_of_getElem? (i := 77) rfl))) (Or.inl (hw _ (List.mem_of_getElem? (i := 137) rfl))) (by decide) (t := .long) (t' := .long) (by decide) (by decide)))).other W29 (Or.inr (slot_ne (Or.inl (hw _ (List.mem_of_getElem? (i := 77) rfl))) (Or.inl (hw _ (List.mem_of_getElem? (i := 64) rfl))) (by decide) (t := .long) (t' := .boolean) (by decide) (by decide))))
  have f33 := (f28.wr W29)
  refine own_putF X29 hx hZ hown (host := "") (Or.inl (hw _ (List.mem_of_getElem? (i := 76) rfl))) Via.refl e29 f32 f33 (Or.inl (hw _ (List.mem_of_getElem? (i := 77) rfl))) (hw _ (List.mem_of_getElem? (i := 31) rfl)) (ty := .long) (by decide) rfl rfl N29 g_a1 (hb hby own_d_prog_40_method_8_code_69) rfl ?_
  intro T34 h34 X34 e34 W34 N34
  have K35 := K30.wr W34 (Or.inl (List.mem_of_getElem? (i := 0) rfl))
  have f36 := f32.same W34
  have f37 := (f33.wr W34)
  exact own_ret X34 hx hlocks hret (hb hby own_d_prog_40_method_8_code_72) (by decide) (by decide) ⟨rfl, N34, by rw [e34]; exact ⟨K35, f37, f36⟩⟩
set_option maxRecDepth 65536 in
set_option maxHeartbeats 40000000 in
theorem own_close_3 (l : Launch) (Z : State) (a0 : Array Value) (hw : ∀ d ∈ tables_1, d.before a0 Z = true) (a1 lb lr de ed x0_ x1_ x2_ : Addr) (kd ke : ClassId) (mc mr : Int32) (h0 : Heap) (n0 : Nat) (O0 : Old Z n0 h0) (SD : Sta Z Z.heap "java/util/ArrayList" "DEFAULTCAPACITY_EMPTY_ELEMENTDATA" "[Ljava/lang/Object;" (.ref de)) (VD : Arv Z Z.heap de kd (.object "java/lang/Object") (0 : Int32) [] .null) (g_a1 : n0 ≤ a1) (g_lb : n0 ≤ lb) (g_lr : n0 ≤ lr) (g_ed : n0 ≤ ed) (hne : lb ≠ lr) (FF : Exa Z h0 a1 "com/example/ledgerleaf/ledgerleaf/Findings" ∧ Fld Z h0 a1 "com/example/ledgerleaf/ledgerleaf/Findings" "m_aBatch" "Ljava/util/List;" (.ref lb) ∧ Fld Z h0 a1 "com/example/ledgerleaf/ledgerleaf/Findings" "m_aRuns" "Ljava/util/List;" (.ref lr) ∧ Fld Z h0 a1 "com/example/ledgerleaf/ledgerleaf/Findings" "m_nBatch" "I" (.int (1000 : Int32)) ∧ Fld Z h0 a1 "com/example/ledgerleaf/ledgerleaf/Findings" "m_bSorted" "Z" (.int (0 : Int32)) ∧ Fld Z h0 a1 "com/example/ledgerleaf/ledgerleaf/Findings" "m_nCount" "J" (.long (3 : Int64)) ∧ Fld Z h0 a1 "com/example/ledgerleaf/ledgerleaf/Findings" "m_nBatchLength" "J" (.long (3 : Int64))) (L0 : own_AL Z h0 lb ed mc 3) (L1 : own_AL Z h0 lr de mr 0) (V0 : Arv Z h0 ed ke (.object "java/lang/Object") (10 : Int32) [(.ref x0_), (.ref x1_), (.ref x2_), .null, .null, .null, .null, .null, .null, .null] .null) :
    own_Met l (⟨"com/example/ledgerleaf/ledgerleaf/Findings", "close", "()V"⟩ : MethodName) prog_40_method_8_code 3 none ({ frames := 3, cells := 1, slots := 4, locals := 38 } : Room) Z #[(.ref a1)] h0 (fun v h L => v = none ∧ Fr n0 L ∧ Keep h0 h [a1, lb, lr, ed] ∧ Exa Z h a1 "com/example/ledgerleaf/ledgerleaf/Findings" ∧ Fld Z h a1 "com/example/ledgerleaf/ledgerleaf/Findings" "m_nCount" "J" (.long (0 : Int64))) := by
  refine own_met (plainFor_of_name own_pn_com_example_ledgerleaf_ledgerleaf_Findings) ?_
  intro p e s m below meth c T0 hx hby hml hZ hown hnm hret hlocks X0 e0 hh0
  have ef : entryFrame m #[(.ref a1)] 3 = mkF m 0 #[.val (.ref a1), .unset, .unset] [] := by first | (simp [entryFrame, mkF, argsToLocals, Value.category]; done) | rfl
  refine own_entry ef ?_
  have N0 := Fr.nil n0
  obtain ⟨Ef0, Bf0, Rf0, Nf0, Sf0, Cf0, Lf0⟩ := FF
  have K0 := Keep.refl h0 [a1, lb, lr, ed]
  obtain ⟨El0, Ml0, Dl0, Sl0⟩ := L0
  obtain ⟨El1, Ml1, Dl1, Sl1⟩ := L1
  refine own_aloadN X0 hx (hb hby own_d_prog_40_method_8_code_0) rfl rfl rfl ?_
  refine own_getF X0 hx hZ hown (host := "") (Or.inl (hw _ (List.mem_of_getElem? (i := 65) rfl))) Via.refl e0 Rf0 (hb hby own_d_prog_40_method_8_code_1) rfl ?_
  intro T1 X1 e1
  refine own_iface X1 hx hZ (xi := (⟨"java/util/List", "iterator", "()Ljava/util/Iterator;"⟩ : MethodName)) (y := (⟨"java/util/ArrayList", "iterator", "()Ljava/util/Iterator;"⟩ : MethodName)) hown (hw _ (List.mem_of_getElem? (i := 88) rfl)) (hw _ (List.mem_of_getElem? (i := 89) rfl)) (mvT hZ (hw _ (List.mem_of_getElem? (i := 90) rfl))) (hw _ (List.mem_of_getElem? (i := 91) rfl)) (hw _ (List.mem_of_getElem? (i := 92) rfl)) (hw _ (List.mem_of_getElem? (i := 93) rfl)) (hw _ (List.mem_of_getElem? (i := 94) rfl)) (hw _ (List.mem_of_getElem? (i := 95) rfl)) (hw _ (List.mem_of_getElem? (i := 39) rfl)) (hw _ (List.mem_of_getElem? (i := 96) rfl)) (by decide) e1 (by decide) (W := 0) (by decide) (by decide) (by decide) [] [] (by rw [hml]; rfl) El1 (own_iter l Z a0 hw lr mr h0 n0 O0 El1 Ml1) own_pd9 rfl rfl rfl (hb hby own_d_prog_40_method_8_code_4) rfl ?_
  intro v2 T2 L2 X2 hQ2
  obtain ⟨b2, rfl, Nq2, Kq2, g_b2, sz_b2, Ei2, Ti2, Ci2⟩ := hQ2
  have sz_b2 := Nat.le_trans K0.1 sz_b2
  have N2 := Fr.app N0 Nq2
  have K3 := K0.trans Kq2 all0
  show own_Ends p e below _ (T2.setTop (mkF m 9 #[.val (.ref a1), .unset, .unset] [(.ref b2)]))
  refine own_astoreN X2 hx #[.val (.ref a1), .val (.ref b2), .unset] (hb hby own_d_prog_40_method_8_code_9) rfl rfl rfl ?_
  refine own_aloadN X2 hx (hb hby own_d_prog_40_method_8_code_10) rfl rfl rfl ?_
  have f4 := (Sl1.keep Kq2 nin0)
  refine own_iface X2 hx hZ (xi := (⟨"java/util/Iterator", "hasNext", "()Z"⟩ : MethodName)) (y := (⟨"java/util/ArrayList$Itr", "hasNext", "()Z"⟩ : MethodName)) hown (hw _ (List.mem_of_getElem? (i := 113) rfl)) (hw _ (List.mem_of_getElem? (i := 114) rfl)) (mvT hZ (hw _ (List.mem_of_getElem? (i := 115) rfl))) (hw _ (List.mem_of_getElem? (i := 116) rfl)) (hw _ (List.mem_of_getElem? (i := 117) rfl)) (hw _ (List.mem_of_getElem? (i := 118) rfl)) (hw _ (List.mem_of_getElem? (i := 119) rfl)) (hw _ (List.mem_of_getElem? (i := 120) rfl)) (hw _ (List.mem_of_getElem? (i := 99) rfl)) (hw _ (List.mem_of_getElem? (i := 121) rfl)) (by decide) rfl (by decide) (W := 0) (by decide) (by decide) (by decide) [] [] (by rw [hml]; rfl) Ei2 (own_hasn l Z a0 hw b2 lr T2.heap n0 Ci2 Ti2 f4) own_pd10 rfl rfl rfl (hb hby own_d_prog_40_method_8_code_11) rfl ?_
  intro v5 T5 L5 X5 hQ5
  obtain ⟨rfl, Nq5, hh5⟩ := hQ5
  have N5 := Fr.app N2 Nq5
  show own_Ends p e below _ (T5.setTop (mkF m 16 #[.val (.ref a1), .val (.ref b2), .unset] [(.int (0 : Int32))]))
  refine own_ifT X5 hx (hb hby own_d_prog_40_method_8_code_16) (by decide) rfl (by decide) ?_
  refine own_aloadN X5 hx (hb hby own_d_prog_40_method_8_code_39) rfl rfl rfl ?_
  have f6 := (Rf0.keep Kq2 nin0)
  refine own_getF X5 hx hZ hown (host := "") (Or.inl (hw _ (List.mem_of_getElem? (i := 65) rfl))) Via.refl hh5 f6 (hb hby own_d_prog_40_method_8_code_40) rfl ?_
  intro T7 X7 e7
  have f8 := (El1.keep Kq2)
  have f9 := (Ml1.keep Kq2 nin0)
  have f10 := (Dl1.keep Kq2 nin0)
  refine own_iface X7 hx hZ (xi := (⟨"java/util/List", "clear", "()V"⟩ : MethodName)) (y := (⟨"java/util/ArrayList", "clear", "()V"⟩ : MethodName)) hown (hw _ (List.mem_of_getElem? (i := 126) rfl)) (hw _ (List.mem_of_getElem? (i := 127) rfl)) (mvT hZ (hw _ (List.mem_of_getElem? (i := 128) rfl))) (hw _ (List.mem_of_getElem? (i := 129) rfl)) (hw _ (List.mem_of_getElem? (i := 130) rfl)) (hw _ (List.mem_of_getElem? (i := 131) rfl)) (hw _ (List.mem_of_getElem? (i := 132) rfl)) (hw _ (List.mem_of_getElem? (i := 95) rfl)) (hw _ (List.mem_of_getElem? (i := 39) rfl)) (hw _ (List.mem_of_getElem? (i := 133) rfl)) (by decide) e7 (by decide) (W := 0) (by decide) (by decide) (by decide) [] [] (by rw [hml]; rfl) f8 (own_clear_0 l Z a0 hw lr de kd mr T2.heap n0 g_lr ⟨f8, f9, f10, f4⟩) own_pd0 rfl rfl rfl (hb hby own_d_prog_40_method_8_code_43) rfl ?_
  intro v11 T11 L11 X11 hQ11
  obtain ⟨rfl, Nq11, Kq11, Al11⟩ := hQ11
  have N11 := Fr.app N5 Nq11
  have K12 := K3.trans Kq11 (allS (Or.inl (List.mem_of_getElem? (i := 2) rfl)) all0)
  obtain ⟨El11, Ml11, Dl11, Sl11⟩ := Al11
  show own_Ends p e below _ (T11.setTop (mkF m 48 #[.val (.ref a1), .val (.ref b2), .unset] []))
  refine own_aloadN X11 hx (hb hby own_d_prog_40_method_8_code_48) rfl rfl rfl ?_
  have f13 := ((Bf0.keep Kq2 nin0).keep Kq11 (ninS (ne_exa Ef0 El1 (by decide)) nin0))
  refine own_getF X11 hx hZ hown (host := "") (Or.inl (hw _ (List.mem_of_getElem? (i := 61) rfl))) Via.refl rfl f13 (hb hby own_d_prog_40_method_8_code_49) rfl ?_
  intro T14 X14 e14
  have f15 := ((El0.keep Kq2).keep Kq11)
  have f16 := ((Ml0.keep Kq2 nin0).keep Kq11 (ninS hne nin0))
  have f17 := ((Dl0.keep Kq2 nin0).keep Kq11 (ninS hne nin0))
  have f18 := ((Sl0.keep Kq2 nin0).keep Kq11 (ninS hne nin0))
  have f19 := ((V0.keep Kq2 nin0).keep Kq11 (ninS (Ne.symm (Exa.neArv El1 V0 (hw _ (List.mem_of_getElem? (i := 38) rfl)))) nin0))
  refine own_iface X14 hx hZ (xi := (⟨"java/util/List", "clear", "()V"⟩ : MethodName)) (y := (⟨"java/util/ArrayList", "clear", "()V"⟩ : MethodName)) hown (hw _ (List.mem_of_getElem? (i := 126) rfl)) (hw _ (List.mem_of_getElem? (i := 127) rfl)) (mvT hZ (hw _ (List.mem_of_getElem? (i := 128) rfl))) (hw _ (List.mem_of_getElem? (i := 129) rfl)) (hw _ (List.mem_of_getElem? (i := 130) rfl)) (hw _ (List.mem_of_getElem? (i := 131) rfl)) (hw _ (List.mem_of_getElem? (i := 132) rfl)) (hw _ (List.mem_of_getElem? (i := 95) rfl)) (hw _ (List.mem_of_getElem? (i := 39) rfl)) (hw _ (List.mem_of_getElem? (i := 133) rfl)) (by decide) e14 (by decide) (W := 0) (by decide) (by decide) (by decide) [] [] (by rw [hml]; rfl) f15 (own_clear_3 l Z a0 hw lb ed x0_ x1_ x2_ ke mc T11.heap n0 g_lb ⟨f15, f16, f17, f18⟩ g_ed f19) own_pd0 rfl rfl rfl (hb hby own_d_prog_40_method_8_code_52) rfl ?_
  intro v20 T20 L20 X20 hQ20
  obtain ⟨rfl, Nq20, Kq20, Al20⟩ := hQ20
  have N20 := Fr.app N11 Nq20
  have K21 := K12.trans Kq20 (allS (Or.inl (List.mem_of_getElem? (i := 1) rfl)) (allS (Or.inl (List.mem_of_getElem? (i := 3) rfl)) all0))
  obtain ⟨El20, Ml20, Dl20, Sl20⟩ := Al20
  show own_Ends p e below _ (T20.setTop (mkF m 57 #[.val (.ref a1), .val (.ref b2), .unset] []))
  refine own_aloadN X20 hx (hb hby own_d_prog_40_method_8_code_57) rfl rfl rfl ?_
  refine own_lconst X20 hx (0 : Int64) (hb hby own_d_prog_40_method_8_code_58) (by decide) rfl ?_
  have f22 := (((Lf0.keep Kq2 nin0).keep Kq11 (ninS (ne_exa Ef0 El1 (by decide)) nin0)).keep Kq20 (ninS (ne_exa Ef0 El0 (by decide)) (ninS (Exa.neArv Ef0 V0 (hw _ (List.mem_of_getElem? (i := 31) rfl))) nin0)))
  have f23 := (((Ef0.keep Kq2).keep Kq11).keep Kq20)
  refine own_putF X20 hx hZ hown (host := "") (Or.inl (hw _ (List.mem_of_getElem? (i := 136) rfl))) Via.refl rfl f22 f23 (Or.inl (hw _ (List.mem_of_getElem? (i := 137) rfl))) (hw _ (List.mem_of_getElem? (i := 31) rfl)) (ty := .long) (by decide) rfl rfl N20 g_a1 (hb hby own_d_prog_40_method_8_code_59) rfl ?_
  intro T24 h24 X24 e24 W24 N24
  have K25 := K21.wr W24 (Or.inl (List.mem_of_getElem? (i := 0) rfl))
  have f26 := f22.same W24
  refine own_aloadN X24 hx (hb hby own_d_prog_40_method_8_code_62) rfl rfl rfl ?_
  refine own_iconst X24 hx (1 : Int32) (hb hby own_d_prog_40_method_8_code_63) (by decide) rfl ?_
  have f27 := ((((Sf0.keep Kq2 nin0).keep Kq11 (ninS (ne_exa Ef0 El1 (by decide)) nin0)).keep Kq20 (ninS (ne_exa Ef0 El0 (by decide)) (ninS (Exa.neArv Ef0 V0 (hw _ (List.mem_of_getElem? (i := 31) rfl))) nin0))).other W24 (Or.inr (slot_ne (Or.inl (hw _ (List.mem_of_getElem? (i := 64) rfl))) (Or.inl (hw _ (List.mem_of_getElem? (i := 137) rfl))) (by decide) (t := .boolean) (t' := .long) (by decide) (by decide))))
  have f28 := (f23.wr W24)
  refine own_putFN X24 hx hZ hown (hw _ (List.mem_of_getElem? (i := 63) rfl)) Via.refl e24 (.int (1 : Int32)) f27 f28 (Or.inl (hw _ (List.mem_of_getElem? (i := 64) rfl))) (hw _ (List.mem_of_getElem? (i := 31) rfl)) (ty := .boolean) (by decide) rfl rfl N24 g_a1 (hb hby own_d_prog_40_method_8_code_64) rfl ?_
  intro T29 h29 X29 e29 W29 N29
  have K30 := K25.wr W29 (Or.inl (List.mem_of_getElem? (i := 0) rfl))
  have f31 := f27.same W29
  refine own_aloadN X29 hx (hb hby own_d_prog_40_method_8_code_67) rfl rfl rfl ?_
  refine own_lconst X29 hx (0 : Int64) (hb hby own_d_prog_40_method_8_code_68) (by decide) rfl ?_
  have f32 := (((((Cf0.keep Kq2 nin0).keep Kq11 (ninS (ne_exa Ef0 El1 (by decide)) nin0)).keep Kq20 (ninS (ne_exa Ef0 El0 (by decide)) (ninS (Exa.neArv Ef0 V0 (hw _ (List.mem_of_getElem? (i := 31) rfl))) nin0))).other W24 (Or.inr (slot_ne (Or.inl (hw _ (List.mem_of_getElem? (i := 77) rfl))) (Or.inl (hw _ (List.mem_of_getElem? (i := 137) rfl))) (by decide) (t := .long) (t' := .long) (by decide) (by decide)))).other W29 (Or.inr (slot_ne (Or.inl (hw _ (List.mem_of_getElem? (i := 77) rfl))) (Or.inl (hw _ (List.mem_of_getElem? (i := 64) rfl))) (by decide) (t := .long) (t' := .boolean) (by decide) (by decide))))
  have f33 := (f28.wr W29)
  refine own_putF X29 hx hZ hown (host := "") (Or.inl (hw _ (List.mem_of_getElem? (i := 76) rfl))) Via.refl e29 f32 f33 (Or.inl (hw _ (List.mem_of_getElem? (i := 77) rfl))) (hw _ (List.mem_of_getElem? (i := 31) rfl)) (ty := .long) (by decide) rfl rfl N29 g_a1 (hb hby own_d_prog_40_method_8_code_69) rfl ?_
  intro T34 h34 X34 e34 W34 N34
  have K35 := K30.wr W34 (Or.inl (List.mem_of_getElem? (i := 0) rfl))
  have f36 := f32.same W34
  have f37 := (f33.wr W34)
  exact own_ret X34 hx hlocks hret (hb hby own_d_prog_40_method_8_code_72) (by decide) (by decide) ⟨rfl, N34, by rw [e34]; exact ⟨K35, f37, f36⟩⟩
theorem own_and3 (p : Int32) : p &&& 3 = 0 ∨ p &&& 3 = 1 ∨ p &&& 3 = 2 ∨ p &&& 3 = 3 := by
  have h := c_mask p 3 2 (by decide) (by decide)
  generalize p &&& 3 = i at h
  have h4 : ∀ n : Int, i.toInt = n → i = Int32.ofInt n := fun n q => by rw [← q]; simp
  have h5 : i.toInt = 0 ∨ i.toInt = 1 ∨ i.toInt = 2 ∨ i.toInt = 3 := by omega
  rcases h5 with h5 | h5 | h5 | h5
  · exact Or.inl (h4 _ h5)
  · exact Or.inr (Or.inl (h4 _ h5))
  · exact Or.inr (Or.inr (Or.inl (h4 _ h5)))
  · exact Or.inr (Or.inr (Or.inr (h4 _ h5)))
set_option maxRecDepth 65536 in
set_option maxHeartbeats 40000000 in
theorem own_law (l : Launch) (Z : State) (a0 : Array Value) (hw : ∀ d ∈ tables_1, d.before a0 Z = true) (p1 p2 p3 p4 p5 zc : Int32) (de : Addr) (kd : ClassId) (h0 : Heap) (n0 : Nat) (O0 : Old Z n0 h0) (SC : Sta Z Z.heap "java/lang/String" "COMPACT_STRINGS" "Z" (.int zc)) (hzc : ¬ zc = 0) (SD : Sta Z Z.heap "java/util/ArrayList" "DEFAULTCAPACITY_EMPTY_ELEMENTDATA" "[Ljava/lang/Object;" (.ref de)) (VD : Arv Z Z.heap de kd (.object "java/lang/Object") (0 : Int32) [] .null) :
    own_Met l x code maxLocals ret room_1 Z #[(.int p1), (.int p2), (.int p3), (.int p4), (.int p5)] h0 (fun v h L => v = some (.int 1) ∧ Fr n0 L) := by
  refine own_met (plainFor_of_name own_pn_com_example_ledgerleaf_ledgerleaf_FindingsIsEmptyPinLaw) ?_
  intro p e s m below meth c T0 hx hby hml hZ hown hnm hret hlocks X0 e0 hh0
  have ef : entryFrame m #[(.int p1), (.int p2), (.int p3), (.int p4), (.int p5)] maxLocals = mkF m 0 #[.val (.int p1), .val (.int p2), .val (.int p3), .val (.int p4), .val (.int p5), .unset, .unset, .unset, .unset, .unset, .unset, .unset, .unset, .unset] [] := by first | (simp [entryFrame, mkF, argsToLocals, Value.category, maxLocals]; done) | rfl
  refine own_entry ef ?_
  have N0 := Fr.nil n0
  refine own_iloadN X0 hx (hb hby at_0) rfl rfl ?_
  refine own_iconst X0 hx (3 : Int32) (hb hby at_1) (by decide) rfl ?_
  refine own_iand X0 hx (hb hby at_2) rfl ?_
  have hk := own_and3 p1
  generalize (p1 &&& (3 : Int32)) = k_ at hk ⊢
  refine own_istore X0 hx #[.val (.int p1), .val (.int p2), .val (.int p3), .val (.int p4), .val (.int p5), .val (.int k_), .unset, .unset, .unset, .unset, .unset, .unset, .unset, .unset] (hb hby at_3) rfl rfl ?_
  refine own_iconst X0 hx (1 : Int32) (hb hby at_5) (by decide) rfl ?_
  refine own_newP X0 hx hZ (aty := .char) (hw _ (List.mem_of_getElem? (i := 0) rfl)) e0 (hb hby at_6) (by decide) 1 (by decide) (by decide) (by decide) (by decide) rfl ?_
  intro T1 h1 b1 k1 X1 e1 g1 E1 V1q
  have g_b1 : n0 ≤ b1 := Nat.le_trans (own_oz O0) (Nat.le_of_eq g1.symm)
  have V1 : Arv Z h1 b1 k1 .char (1 : Int32) [(.int (0 : Int32))] (.int (0 : Int32)) := Arv.pad V1q (pad_rep [] (.int (0 : Int32)) 1)
  refine own_dup X1 hx (hb hby at_8) rfl rfl ?_
  refine own_iconst X1 hx (0 : Int32) (hb hby at_9) (by decide) rfl ?_
  refine own_iload X1 hx (hb hby at_10) rfl rfl ?_
  refine own_sipush X1 hx (255 : Int32) (hb hby at_12) (by decide) rfl ?_
  refine own_iand X1 hx (hb hby at_15) rfl ?_
  refine own_i2c X1 hx (hb hby at_16) rfl ?_
  have hc2 := own_ch p5
  generalize ((p5 &&& (255 : Int32)).toUInt32.toUInt16.toUInt32.toInt32) = c2 at hc2 ⊢
  refine own_stC X1 hx hZ e1 V1 ⟨by decide, by decide⟩ 0 rfl (Nat.le_of_ble_eq_true rfl) (own_narC hc2) N0 g_b1 (hb hby at_17) rfl ?_
  intro T3 h3 X3 e3 W3 N3 V3
  refine own_astore X3 hx #[.val (.int p1), .val (.int p2), .val (.int p3), .val (.int p4), .val (.int p5), .val (.int k_), .val (.ref b1), .unset, .unset, .unset, .unset, .unset, .unset, .unset] (hb hby at_18) rfl rfl rfl ?_
  refine own_iconst X3 hx (1 : Int32) (hb hby at_20) (by decide) rfl ?_
  refine own_newP X3 hx hZ (aty := .char) (hw _ (List.mem_of_getElem? (i := 0) rfl)) e3 (hb hby at_21) (by decide) 1 (by decide) (by decide) (by decide) (by decide) rfl ?_
  intro T4 h4 b4 k4 X4 e4 g4 E4 V4q
  have f5 := ((O0.ext E1).wr W3 g_b1)
  have g_b4 : n0 ≤ b4 := Nat.le_trans (own_oz f5) (Nat.le_of_eq g4.symm)
  have V4 : Arv Z h4 b4 k4 .char (1 : Int32) [(.int (0 : Int32))] (.int (0 : Int32)) := Arv.pad V4q (pad_rep [] (.int (0 : Int32)) 1)
  refine own_dup X4 hx (hb hby at_23) rfl rfl ?_
  refine own_iconst X4 hx (0 : Int32) (hb hby at_24) (by decide) rfl ?_
  refine own_iload X4 hx (hb hby at_25) rfl rfl ?_
  refine own_bipush X4 hx (8 : Int32) (hb hby at_27) (by decide) rfl ?_
  refine own_iushr X4 hx (hb hby at_29) rfl ?_
  refine own_sipush X4 hx (255 : Int32) (hb hby at_30) (by decide) rfl ?_
  refine own_iand X4 hx (hb hby at_33) rfl ?_
  refine own_i2c X4 hx (hb hby at_34) rfl ?_
  have hc6 := own_ch (own_ushr p5 (8 : Int32))
  generalize (((own_ushr p5 (8 : Int32)) &&& (255 : Int32)).toUInt32.toUInt16.toUInt32.toInt32) = c6 at hc6 ⊢
  refine own_stC X4 hx hZ e4 V4 ⟨by decide, by decide⟩ 0 rfl (Nat.le_of_ble_eq_true rfl) (own_narC hc6) N3 g_b4 (hb hby at_35) rfl ?_
  intro T7 h7 X7 e7 W7 N7 V7
  refine own_astore X7 hx #[.val (.int p1), .val (.int p2), .val (.int p3), .val (.int p4), .val (.int p5), .val (.int k_), .val (.ref b1), .val (.ref b4), .unset, .unset, .unset, .unset, .unset, .unset] (hb hby at_36) rfl rfl rfl ?_
  refine own_iconst X7 hx (1 : Int32) (hb hby at_38) (by decide) rfl ?_
  refine own_newP X7 hx hZ (aty := .char) (hw _ (List.mem_of_getElem? (i := 0) rfl)) e7 (hb hby at_39) (by decide) 1 (by decide) (by decide) (by decide) (by decide) rfl ?_
  intro T8 h8 b8 k8 X8 e8 g8 E8 V8q
  have f9 := ((f5.ext E4).wr W7 g_b4)
  have g_b8 : n0 ≤ b8 := Nat.le_trans (own_oz f9) (Nat.le_of_eq g8.symm)
  have V8 : Arv Z h8 b8 k8 .char (1 : Int32) [(.int (0 : Int32))] (.int (0 : Int32)) := Arv.pad V8q (pad_rep [] (.int (0 : Int32)) 1)
  refine own_dup X8 hx (hb hby at_41) rfl rfl ?_
  refine own_iconst X8 hx (0 : Int32) (hb hby at_42) (by decide) rfl ?_
  refine own_iload X8 hx (hb hby at_43) rfl rfl ?_
  refine own_bipush X8 hx (16 : Int32) (hb hby at_45) (by decide) rfl ?_
  refine own_iushr X8 hx (hb hby at_47) rfl ?_
  refine own_sipush X8 hx (255 : Int32) (hb hby at_48) (by decide) rfl ?_
  refine own_iand X8 hx (hb hby at_51) rfl ?_
  refine own_i2c X8 hx (hb hby at_52) rfl ?_
  have hc10 := own_ch (own_ushr p5 (16 : Int32))
  generalize (((own_ushr p5 (16 : Int32)) &&& (255 : Int32)).toUInt32.toUInt16.toUInt32.toInt32) = c10 at hc10 ⊢
  refine own_stC X8 hx hZ e8 V8 ⟨by decide, by decide⟩ 0 rfl (Nat.le_of_ble_eq_true rfl) (own_narC hc10) N7 g_b8 (hb hby at_53) rfl ?_
  intro T11 h11 X11 e11 W11 N11 V11
  refine own_astore X11 hx #[.val (.int p1), .val (.int p2), .val (.int p3), .val (.int p4), .val (.int p5), .val (.int k_), .val (.ref b1), .val (.ref b4), .val (.ref b8), .unset, .unset, .unset, .unset, .unset] (hb hby at_54) rfl rfl rfl ?_
  refine own_new X11 hx hZ hown (hw _ (List.mem_of_getElem? (i := 1) rfl)) (hw _ (List.mem_of_getElem? (i := 2) rfl)) (hw _ (List.mem_of_getElem? (i := 3) rfl)) e11 (hb hby at_56) (by decide) (by decide) rfl ?_
  intro T12 h12 b12 X12 e12 g12 E12 A12 D12
  have f13 := ((f9.ext E8).wr W11 g_b8)
  have g_b12 : n0 ≤ b12 := Nat.le_trans (own_oz f13) (Nat.le_of_eq g12.symm)
  have Fb12_coder : Fld Z h12 b12 "java/lang/String" "coder" "B" (.int (0 : Int32)) := D12 (Or.inr (hw _ (List.mem_of_getElem? (i := 27) rfl))) (ty := .byte) (by decide)
  have Fb12_value : Fld Z h12 b12 "java/lang/String" "value" "[B" .null := D12 (Or.inr (hw _ (List.mem_of_getElem? (i := 29) rfl))) (ty := (.array .byte)) (by decide)
  refine own_dup X12 hx (hb hby at_59) rfl rfl ?_
  refine own_aload X12 hx (hb hby at_60) rfl rfl rfl ?_
  have hp_b12 : ∀ c ∈ ([c2] : List Int32), ¬ c < 0 ∧ ¬ (255 : Int32) < c := (own_c2 hc2 own_c0)
  have f14 := (((((V3.ext E4).other W7 (Nat.ne_of_lt (Nat.lt_of_lt_of_le V3.lt (Nat.le_of_eq g4.symm)))).ext E8).other W11 (Nat.ne_of_lt (Nat.lt_of_lt_of_le ((V3.ext E4).other W7 (Nat.ne_of_lt (Nat.lt_of_lt_of_le V3.lt (Nat.le_of_eq g4.symm)))).lt (Nat.le_of_eq g8.symm)))).ext E12)
  have f15 := (f13.ext E12)
  refine own_specialB X12 hx hZ (y := (⟨"java/lang/String", "<init>", "([C)V"⟩ : MethodName)) rfl hown (hw _ (List.mem_of_getElem? (i := 4) rfl)) (hw _ (List.mem_of_getElem? (i := 5) rfl)) (hw _ (List.mem_of_getElem? (i := 6) rfl)) (by decide) e12 (W := 1) (ce := 1) (sl := 1) (by decide) (by decide) [(.ref b1)] [(.ref b12)] (by rw [hml]; rfl) (a := b12) (StrChars.Road.QV Z b12 (1 : Int32) (([c2] : List Int32).map (fun c => c.toInt8.toInt32)) h12 n0) (StrChars.Road.backV (W := 1) hZ (own_hws hw) (kI := 4) (hw _ (List.mem_of_getElem? (i := 2) rfl)) (cs := ([c2] : List Int32)) (bs := (([c2] : List Int32).map (fun c => c.toInt8.toInt32))) (n := 1) g_b12 (own_oz f15) A12 Fb12_value Fb12_coder f14 (SC.ext f15.2) hzc rfl rfl (by decide) (by decide) hp_b12 rfl (by decide) (by decide)) own_pd11 rfl rfl rfl (hb hby at_62) rfl ?_
  intro v16 T16 L16 X16 hQ16
  obtain ⟨rfl, Nq16, Kq16, Es16, Cs16, t16, kb16, gt16, st16, nt16, Vs16, Ks16⟩ := hQ16
  have N16 := Fr.app N11 Nq16
  have co16 : StrChars.Road.CodA ([c2] : List Int32) 0 (1 : Int32) (((([c2] : List Int32).map (fun c => c.toInt8.toInt32))).map Value.int) := StrChars.Road.codOf (n := 1) rfl (fun c hc => (hp_b12 c hc).2)
  have hb16 := own_up hp_b12
  show own_Ends p e below _ (T16.setTop (mkF m 65 #[.val (.int p1), .val (.int p2), .val (.int p3), .val (.int p4), .val (.int p5), .val (.int k_), .val (.ref b1), .val (.ref b4), .val (.ref b8), .unset, .unset, .unset, .unset, .unset] [(.ref b12)]))
  refine own_astore X16 hx #[.val (.int p1), .val (.int p2), .val (.int p3), .val (.int p4), .val (.int p5), .val (.int k_), .val (.ref b1), .val (.ref b4), .val (.ref b8), .val (.ref b12), .unset, .unset, .unset, .unset] (hb hby at_65) rfl rfl rfl ?_
  refine own_new X16 hx hZ hown (hw _ (List.mem_of_getElem? (i := 1) rfl)) (hw _ (List.mem_of_getElem? (i := 2) rfl)) (hw _ (List.mem_of_getElem? (i := 3) rfl)) rfl (hb hby at_67) (by decide) (by decide) rfl ?_
  intro T17 h17 b17 X17 e17 g17 E17 A17 D17
  have f18 := (f15.keep Kq16 (allS g_b12 all0))
  have g_b17 : n0 ≤ b17 := Nat.le_trans (own_oz f18) (Nat.le_of_eq g17.symm)
  have Fb17_coder : Fld Z h17 b17 "java/lang/String" "coder" "B" (.int (0 : Int32)) := D17 (Or.inr (hw _ (List.mem_of_getElem? (i := 27) rfl))) (ty := .byte) (by decide)
  have Fb17_value : Fld Z h17 b17 "java/lang/String" "value" "[B" .null := D17 (Or.inr (hw _ (List.mem_of_getElem? (i := 29) rfl))) (ty := (.array .byte)) (by decide)
  refine own_dup X17 hx (hb hby at_70) rfl rfl ?_
  refine own_aload X17 hx (hb hby at_71) rfl rfl rfl ?_
  have hp_b17 : ∀ c ∈ ([c6] : List Int32), ¬ c < 0 ∧ ¬ (255 : Int32) < c := (own_c2 hc6 own_c0)
  have f19 := (((((V7.ext E8).other W11 (Nat.ne_of_lt (Nat.lt_of_lt_of_le V7.lt (Nat.le_of_eq g8.symm)))).ext E12).keep Kq16 (ninS (Nat.ne_of_lt (Nat.lt_of_lt_of_le ((V7.ext E8).other W11 (Nat.ne_of_lt (Nat.lt_of_lt_of_le V7.lt (Nat.le_of_eq g8.symm)))).lt (Nat.le_of_eq g12.symm))) nin0)).ext E17)
  have f20 := (f18.ext E17)
  refine own_specialB X17 hx hZ (y := (⟨"java/lang/String", "<init>", "([C)V"⟩ : MethodName)) rfl hown (hw _ (List.mem_of_getElem? (i := 4) rfl)) (hw _ (List.mem_of_getElem? (i := 5) rfl)) (hw _ (List.mem_of_getElem? (i := 6) rfl)) (by decide) e17 (W := 1) (ce := 1) (sl := 1) (by decide) (by decide) [(.ref b4)] [(.ref b17)] (by rw [hml]; rfl) (a := b17) (StrChars.Road.QV Z b17 (1 : Int32) (([c6] : List Int32).map (fun c => c.toInt8.toInt32)) h17 n0) (StrChars.Road.backV (W := 1) hZ (own_hws hw) (kI := 4) (hw _ (List.mem_of_getElem? (i := 2) rfl)) (cs := ([c6] : List Int32)) (bs := (([c6] : List Int32).map (fun c => c.toInt8.toInt32))) (n := 1) g_b17 (own_oz f20) A17 Fb17_value Fb17_coder f19 (SC.ext f20.2) hzc rfl rfl (by decide) (by decide) hp_b17 rfl (by decide) (by decide)) own_pd11 rfl rfl rfl (hb hby at_73) rfl ?_
  intro v21 T21 L21 X21 hQ21
  obtain ⟨rfl, Nq21, Kq21, Es21, Cs21, t21, kb21, gt21, st21, nt21, Vs21, Ks21⟩ := hQ21
  have N21 := Fr.app N16 Nq21
  have co21 : StrChars.Road.CodA ([c6] : List Int32) 0 (1 : Int32) (((([c6] : List Int32).map (fun c => c.toInt8.toInt32))).map Value.int) := StrChars.Road.codOf (n := 1) rfl (fun c hc => (hp_b17 c hc).2)
  have hb21 := own_up hp_b17
  show own_Ends p e below _ (T21.setTop (mkF m 76 #[.val (.int p1), .val (.int p2), .val (.int p3), .val (.int p4), .val (.int p5), .val (.int k_), .val (.ref b1), .val (.ref b4), .val (.ref b8), .val (.ref b12), .unset, .unset, .unset, .unset] [(.ref b17)]))
  refine own_astore X21 hx #[.val (.int p1), .val (.int p2), .val (.int p3), .val (.int p4), .val (.int p5), .val (.int k_), .val (.ref b1), .val (.ref b4), .val (.ref b8), .val (.ref b12), .val (.ref b17), .unset, .unset, .unset] (hb hby at_76) rfl rfl rfl ?_
  refine own_new X21 hx hZ hown (hw _ (List.mem_of_getElem? (i := 1) rfl)) (hw _ (List.mem_of_getElem? (i := 2) rfl)) (hw _ (List.mem_of_getElem? (i := 3) rfl)) rfl (hb hby at_78) (by decide) (by decide) rfl ?_
  intro T22 h22 b22 X22 e22 g22 E22 A22 D22
  have f23 := (f20.keep Kq21 (allS g_b17 all0))
  have g_b22 : n0 ≤ b22 := Nat.le_trans (own_oz f23) (Nat.le_of_eq g22.symm)
  have Fb22_coder : Fld Z h22 b22 "java/lang/String" "coder" "B" (.int (0 : Int32)) := D22 (Or.inr (hw _ (List.mem_of_getElem? (i := 27) rfl))) (ty := .byte) (by decide)
  have Fb22_value : Fld Z h22 b22 "java/lang/String" "value" "[B" .null := D22 (Or.inr (hw _ (List.mem_of_getElem? (i := 29) rfl))) (ty := (.array .byte)) (by decide)
  refine own_dup X22 hx (hb hby at_81) rfl rfl ?_
  refine own_aload X22 hx (hb hby at_82) rfl rfl rfl ?_
  have hp_b22 : ∀ c ∈ ([c10] : List Int32), ¬ c < 0 ∧ ¬ (255 : Int32) < c := (own_c2 hc10 own_c0)
  have f24 := (((((V11.ext E12).keep Kq16 (ninS (Nat.ne_of_lt (Nat.lt_of_lt_of_le V11.lt (Nat.le_of_eq g12.symm))) nin0)).ext E17).keep Kq21 (ninS (Nat.ne_of_lt (Nat.lt_of_lt_of_le ((V11.ext E12).keep Kq16 (ninS (Nat.ne_of_lt (Nat.lt_of_lt_of_le V11.lt (Nat.le_of_eq g12.symm))) nin0)).lt (Nat.le_of_eq g17.symm))) nin0)).ext E22)
  have f25 := (f23.ext E22)
  refine own_specialB X22 hx hZ (y := (⟨"java/lang/String", "<init>", "([C)V"⟩ : MethodName)) rfl hown (hw _ (List.mem_of_getElem? (i := 4) rfl)) (hw _ (List.mem_of_getElem? (i := 5) rfl)) (hw _ (List.mem_of_getElem? (i := 6) rfl)) (by decide) e22 (W := 1) (ce := 1) (sl := 1) (by decide) (by decide) [(.ref b8)] [(.ref b22)] (by rw [hml]; rfl) (a := b22) (StrChars.Road.QV Z b22 (1 : Int32) (([c10] : List Int32).map (fun c => c.toInt8.toInt32)) h22 n0) (StrChars.Road.backV (W := 1) hZ (own_hws hw) (kI := 4) (hw _ (List.mem_of_getElem? (i := 2) rfl)) (cs := ([c10] : List Int32)) (bs := (([c10] : List Int32).map (fun c => c.toInt8.toInt32))) (n := 1) g_b22 (own_oz f25) A22 Fb22_value Fb22_coder f24 (SC.ext f25.2) hzc rfl rfl (by decide) (by decide) hp_b22 rfl (by decide) (by decide)) own_pd11 rfl rfl rfl (hb hby at_84) rfl ?_
  intro v26 T26 L26 X26 hQ26
  obtain ⟨rfl, Nq26, Kq26, Es26, Cs26, t26, kb26, gt26, st26, nt26, Vs26, Ks26⟩ := hQ26
  have N26 := Fr.app N21 Nq26
  have co26 : StrChars.Road.CodA ([c10] : List Int32) 0 (1 : Int32) (((([c10] : List Int32).map (fun c => c.toInt8.toInt32))).map Value.int) := StrChars.Road.codOf (n := 1) rfl (fun c hc => (hp_b22 c hc).2)
  have hb26 := own_up hp_b22
  show own_Ends p e below _ (T26.setTop (mkF m 87 #[.val (.int p1), .val (.int p2), .val (.int p3), .val (.int p4), .val (.int p5), .val (.int k_), .val (.ref b1), .val (.ref b4), .val (.ref b8), .val (.ref b12), .val (.ref b17), .unset, .unset, .unset] [(.ref b22)]))
  refine own_astore X26 hx #[.val (.int p1), .val (.int p2), .val (.int p3), .val (.int p4), .val (.int p5), .val (.int k_), .val (.ref b1), .val (.ref b4), .val (.ref b8), .val (.ref b12), .val (.ref b17), .val (.ref b22), .unset, .unset] (hb hby at_87) rfl rfl rfl ?_
  refine own_new X26 hx hZ hown (hw _ (List.mem_of_getElem? (i := 30) rfl)) (hw _ (List.mem_of_getElem? (i := 31) rfl)) (hw _ (List.mem_of_getElem? (i := 32) rfl)) rfl (hb hby at_89) (by decide) (by decide) rfl ?_
  intro T27 h27 b27 X27 e27 g27 E27 A27 D27
  have f28 := (f25.keep Kq26 (allS g_b22 all0))
  have g_b27 : n0 ≤ b27 := Nat.le_trans (own_oz f28) (Nat.le_of_eq g27.symm)
  have Fb27_m_aBatch : Fld Z h27 b27 "com/example/ledgerleaf/ledgerleaf/Findings" "m_aBatch" "Ljava/util/List;" .null := D27 (Or.inr (hw _ (List.mem_of_getElem? (i := 62) rfl))) (ty := (.object "java/util/List")) (by decide)
  have Fb27_m_bSorted : Fld Z h27 b27 "com/example/ledgerleaf/ledgerleaf/Findings" "m_bSorted" "Z" (.int (0 : Int32)) := D27 (Or.inl (hw _ (List.mem_of_getElem? (i := 64) rfl))) (ty := .boolean) (by decide)
  have Fb27_m_aRuns : Fld Z h27 b27 "com/example/ledgerleaf/ledgerleaf/Findings" "m_aRuns" "Ljava/util/List;" .null := D27 (Or.inr (hw _ (List.mem_of_getElem? (i := 66) rfl))) (ty := (.object "java/util/List")) (by decide)
  have Fb27_m_nBatch : Fld Z h27 b27 "com/example/ledgerleaf/ledgerleaf/Findings" "m_nBatch" "I" (.int (0 : Int32)) := D27 (Or.inr (hw _ (List.mem_of_getElem? (i := 68) rfl))) (ty := .int) (by decide)
  have Fb27_m_nFanIn : Fld Z h27 b27 "com/example/ledgerleaf/ledgerleaf/Findings" "m_nFanIn" "I" (.int (0 : Int32)) := D27 (Or.inr (hw _ (List.mem_of_getElem? (i := 70) rfl))) (ty := .int) (by decide)
  have Fb27_m_nCount : Fld Z h27 b27 "com/example/ledgerleaf/ledgerleaf/Findings" "m_nCount" "J" (.long (0 : Int64)) := D27 (Or.inl (hw _ (List.mem_of_getElem? (i := 77) rfl))) (ty := .long) (by decide)
  have Fb27_m_nBatchLength : Fld Z h27 b27 "com/example/ledgerleaf/ledgerleaf/Findings" "m_nBatchLength" "J" (.long (0 : Int64)) := D27 (Or.inl (hw _ (List.mem_of_getElem? (i := 137) rfl))) (ty := .long) (by decide)
  refine own_dup X27 hx (hb hby at_92) rfl rfl ?_
  refine own_sipush X27 hx (1000 : Int32) (hb hby at_93) (by decide) rfl ?_
  refine own_bipush X27 hx (64 : Int32) (hb hby at_96) (by decide) rfl ?_
  have f29 := (f28.ext E27)
  refine own_special X27 hx hZ (y := (⟨"com/example/ledgerleaf/ledgerleaf/Findings", "<init>", "(II)V"⟩ : MethodName)) rfl hown (hw _ (List.mem_of_getElem? (i := 33) rfl)) (hw _ (List.mem_of_getElem? (i := 34) rfl)) (hw _ (List.mem_of_getElem? (i := 32) rfl)) (hw _ (List.mem_of_getElem? (i := 35) rfl)) (by decide) e27 (by decide) (W := 1) (by decide) (by decide) (by decide) [(.int (1000 : Int32)), (.int (64 : Int32))] [(.ref b27)] (by rw [hml]; rfl) (a := b27) (own_fsi l Z a0 hw b27 de kd h27 n0 f29 g_b27 SD VD A27 D27) own_pd12 rfl rfl rfl (hb hby at_98) rfl ?_
  intro v30 T30 L30 X30 hQ30
  obtain ⟨rfl, Nq30, Kq30, lb, lr, g_lb, g_lr, hne, Ef0, Bf0, Rf0, Nf0, Sf0, Cf0, Lf0, Lb0, Lr0⟩ := hQ30
  have N30 := Fr.app N26 Nq30
  obtain ⟨Elb, Mlb, Dlb, Slb⟩ := Lb0
  obtain ⟨Elr, Mlr, Dlr, Slr⟩ := Lr0
  show own_Ends p e below _ (T30.setTop (mkF m 101 #[.val (.int p1), .val (.int p2), .val (.int p3), .val (.int p4), .val (.int p5), .val (.int k_), .val (.ref b1), .val (.ref b4), .val (.ref b8), .val (.ref b12), .val (.ref b17), .val (.ref b22), .unset, .unset] [(.ref b27)]))
  refine own_astore X30 hx #[.val (.int p1), .val (.int p2), .val (.int p3), .val (.int p4), .val (.int p5), .val (.int k_), .val (.ref b1), .val (.ref b4), .val (.ref b8), .val (.ref b12), .val (.ref b17), .val (.ref b22), .val (.ref b27), .unset] (hb hby at_101) rfl rfl rfl ?_
  refine own_aload X30 hx (hb hby at_103) rfl rfl rfl ?_
  refine own_virtual X30 hx hZ (y := (⟨"com/example/ledgerleaf/ledgerleaf/Findings", "isEmpty", "()Z"⟩ : MethodName)) (z := (⟨"com/example/ledgerleaf/ledgerleaf/Findings", "isEmpty", "()Z"⟩ : MethodName)) hown (hw _ (List.mem_of_getElem? (i := 71) rfl)) (hw _ (List.mem_of_getElem? (i := 72) rfl)) (notFace_of_selects (args := #[]) (mvT hZ (hw _ (List.mem_of_getElem? (i := 74) rfl)))) (hw _ (List.mem_of_getElem? (i := 74) rfl)) (hw _ (List.mem_of_getElem? (i := 73) rfl)) (hw _ (List.mem_of_getElem? (i := 32) rfl)) (hw _ (List.mem_of_getElem? (i := 75) rfl)) (by decide) rfl (by decide) (W := 0) (by decide) (by decide) (by decide) [] [] (by rw [hml]; rfl) Ef0 (own_ise l Z a0 hw b27 (0 : Int64) T30.heap n0 Cf0) own_pd10 rfl rfl rfl (hb hby at_105) rfl ?_
  intro v31 T31 L31 X31 hQ31
  obtain ⟨rfl, Nq31, hh31⟩ := hQ31
  have N31 := Fr.app N30 Nq31
  rw [show (if (lcmpW (0 : Int64) (0 : Int64)) = (0 : Int32) then (1 : Int32) else 0) = (1 : Int32) from by decide]
  show own_Ends p e below _ (T31.setTop (mkF m 108 #[.val (.int p1), .val (.int p2), .val (.int p3), .val (.int p4), .val (.int p5), .val (.int k_), .val (.ref b1), .val (.ref b4), .val (.ref b8), .val (.ref b12), .val (.ref b17), .val (.ref b22), .val (.ref b27), .unset] [(.int (1 : Int32))]))
  refine own_istore X31 hx #[.val (.int p1), .val (.int p2), .val (.int p3), .val (.int p4), .val (.int p5), .val (.int k_), .val (.ref b1), .val (.ref b4), .val (.ref b8), .val (.ref b12), .val (.ref b17), .val (.ref b22), .val (.ref b27), .val (.int (1 : Int32))] (hb hby at_108) rfl rfl ?_
  rcases hk with rfl | rfl | rfl | rfl
  · refine own_iload X31 hx (hb hby at_110) rfl rfl ?_
    refine own_iconst X31 hx (1 : Int32) (hb hby at_112) (by decide) rfl ?_
    refine own_icmpT X31 hx (hb hby at_113) (by decide) rfl (by decide) ?_
    refine own_iload X31 hx (hb hby at_151) rfl rfl ?_
    refine own_iconst X31 hx (2 : Int32) (hb hby at_153) (by decide) rfl ?_
    refine own_icmpT X31 hx (hb hby at_154) (by decide) rfl (by decide) ?_
    refine own_iload X31 hx (hb hby at_192) rfl rfl ?_
    refine own_iconst X31 hx (3 : Int32) (hb hby at_194) (by decide) rfl ?_
    refine own_icmpT X31 hx (hb hby at_195) (by decide) rfl (by decide) ?_
    refine own_iload X31 hx (hb hby at_233) rfl rfl ?_
    refine own_ifF X31 hx (hb hby at_235) rfl (by decide) ?_
    refine own_aload X31 hx (hb hby at_238) rfl rfl rfl ?_
    refine own_virtual X31 hx hZ (y := (⟨"com/example/ledgerleaf/ledgerleaf/Findings", "isEmpty", "()Z"⟩ : MethodName)) (z := (⟨"com/example/ledgerleaf/ledgerleaf/Findings", "isEmpty", "()Z"⟩ : MethodName)) hown (hw _ (List.mem_of_getElem? (i := 71) rfl)) (hw _ (List.mem_of_getElem? (i := 72) rfl)) (notFace_of_selects (args := #[]) (mvT hZ (hw _ (List.mem_of_getElem? (i := 74) rfl)))) (hw _ (List.mem_of_getElem? (i := 74) rfl)) (hw _ (List.mem_of_getElem? (i := 73) rfl)) (hw _ (List.mem_of_getElem? (i := 32) rfl)) (hw _ (List.mem_of_getElem? (i := 75) rfl)) (by decide) hh31 (by decide) (W := 0) (by decide) (by decide) (by decide) [] [] (by rw [hml]; rfl) Ef0 (own_ise l Z a0 hw b27 (0 : Int64) T30.heap n0 Cf0) own_pd10 rfl rfl rfl (hb hby at_240) rfl ?_
    intro v32 T32 L32 X32 hQ32
    obtain ⟨rfl, Nq32, hh32⟩ := hQ32
    have N32 := Fr.app N31 Nq32
    rw [show (if (lcmpW (0 : Int64) (0 : Int64)) = (0 : Int32) then (1 : Int32) else 0) = (1 : Int32) from by decide]
    show own_Ends p e below _ (T32.setTop (mkF m 243 #[.val (.int p1), .val (.int p2), .val (.int p3), .val (.int p4), .val (.int p5), .val (.int (0 : Int32)), .val (.ref b1), .val (.ref b4), .val (.ref b8), .val (.ref b12), .val (.ref b17), .val (.ref b22), .val (.ref b27), .val (.int (1 : Int32))] [(.int (1 : Int32))]))
    refine own_iload X32 hx (hb hby at_243) rfl rfl ?_
    refine own_ifF X32 hx (hb hby at_245) rfl (by decide) ?_
    refine own_iconst X32 hx (1 : Int32) (hb hby at_248) (by decide) rfl ?_
    refine own_goto X32 hx (hb hby at_249) (by decide) rfl ?_
    refine own_icmpF X32 hx (hb hby at_253) rfl (by decide) ?_
    refine own_iconst X32 hx (1 : Int32) (hb hby at_256) (by decide) rfl ?_
    refine own_goto X32 hx (hb hby at_257) (by decide) rfl ?_
    refine own_istore X32 hx #[.val (.int p1), .val (.int p2), .val (.int p3), .val (.int p4), .val (.int p5), .val (.int (0 : Int32)), .val (.ref b1), .val (.ref b4), .val (.ref b8), .val (.ref b12), .val (.ref b17), .val (.ref b22), .val (.ref b27), .val (.int (1 : Int32))] (hb hby at_261) rfl rfl ?_
    refine own_iload X32 hx (hb hby at_263) rfl rfl ?_
    refine own_ifF X32 hx (hb hby at_265) rfl (by decide) ?_
    refine own_aload X32 hx (hb hby at_268) rfl rfl rfl ?_
    refine own_virtual X32 hx hZ (y := (⟨"com/example/ledgerleaf/ledgerleaf/Findings", "isEmpty", "()Z"⟩ : MethodName)) (z := (⟨"com/example/ledgerleaf/ledgerleaf/Findings", "isEmpty", "()Z"⟩ : MethodName)) hown (hw _ (List.mem_of_getElem? (i := 71) rfl)) (hw _ (List.mem_of_getElem? (i := 72) rfl)) (notFace_of_selects (args := #[]) (mvT hZ (hw _ (List.mem_of_getElem? (i := 74) rfl)))) (hw _ (List.mem_of_getElem? (i := 74) rfl)) (hw _ (List.mem_of_getElem? (i := 73) rfl)) (hw _ (List.mem_of_getElem? (i := 32) rfl)) (hw _ (List.mem_of_getElem? (i := 75) rfl)) (by decide) hh32 (by decide) (W := 0) (by decide) (by decide) (by decide) [] [] (by rw [hml]; rfl) Ef0 (own_ise l Z a0 hw b27 (0 : Int64) T30.heap n0 Cf0) own_pd10 rfl rfl rfl (hb hby at_270) rfl ?_
    intro v33 T33 L33 X33 hQ33
    obtain ⟨rfl, Nq33, hh33⟩ := hQ33
    have N33 := Fr.app N32 Nq33
    rw [show (if (lcmpW (0 : Int64) (0 : Int64)) = (0 : Int32) then (1 : Int32) else 0) = (1 : Int32) from by decide]
    show own_Ends p e below _ (T33.setTop (mkF m 273 #[.val (.int p1), .val (.int p2), .val (.int p3), .val (.int p4), .val (.int p5), .val (.int (0 : Int32)), .val (.ref b1), .val (.ref b4), .val (.ref b8), .val (.ref b12), .val (.ref b17), .val (.ref b22), .val (.ref b27), .val (.int (1 : Int32))] [(.int (1 : Int32))]))
    refine own_aload X33 hx (hb hby at_273) rfl rfl rfl ?_
    refine own_virtual X33 hx hZ (y := (⟨"com/example/ledgerleaf/ledgerleaf/Findings", "size", "()J"⟩ : MethodName)) (z := (⟨"com/example/ledgerleaf/ledgerleaf/Findings", "size", "()J"⟩ : MethodName)) hown (hw _ (List.mem_of_getElem? (i := 78) rfl)) (hw _ (List.mem_of_getElem? (i := 79) rfl)) (notFace_of_selects (args := #[]) (mvT hZ (hw _ (List.mem_of_getElem? (i := 81) rfl)))) (hw _ (List.mem_of_getElem? (i := 81) rfl)) (hw _ (List.mem_of_getElem? (i := 80) rfl)) (hw _ (List.mem_of_getElem? (i := 32) rfl)) (hw _ (List.mem_of_getElem? (i := 82) rfl)) (by decide) hh33 (by decide) (W := 1) (by decide) (by decide) (by decide) [] [(.int (1 : Int32))] (by rw [hml]; rfl) Ef0 (own_fsz l Z a0 hw b27 (0 : Int64) T30.heap n0 Cf0) own_pd13 rfl rfl rfl (hb hby at_275) rfl ?_
    intro v34 T34 L34 X34 hQ34
    obtain ⟨rfl, Nq34, hh34⟩ := hQ34
    have N34 := Fr.app N33 Nq34
    show own_Ends p e below _ (T34.setTop (mkF m 278 #[.val (.int p1), .val (.int p2), .val (.int p3), .val (.int p4), .val (.int p5), .val (.int (0 : Int32)), .val (.ref b1), .val (.ref b4), .val (.ref b8), .val (.ref b12), .val (.ref b17), .val (.ref b22), .val (.ref b27), .val (.int (1 : Int32))] [(.long (0 : Int64)), (.int (1 : Int32))]))
    refine own_lconst X34 hx (0 : Int64) (hb hby at_278) (by decide) rfl ?_
    refine own_lcmp X34 hx (hb hby at_279) rfl ?_
    rw [show (lcmpW (0 : Int64) (0 : Int64)) = (0 : Int32) from by decide]
    refine own_ifF X34 hx (hb hby at_280) rfl (by decide) ?_
    refine own_iconst X34 hx (1 : Int32) (hb hby at_283) (by decide) rfl ?_
    refine own_goto X34 hx (hb hby at_284) (by decide) rfl ?_
    refine own_icmpF X34 hx (hb hby at_288) rfl (by decide) ?_
    refine own_iconst X34 hx (1 : Int32) (hb hby at_291) (by decide) rfl ?_
    refine own_goto X34 hx (hb hby at_292) (by decide) rfl ?_
    refine own_istore X34 hx #[.val (.int p1), .val (.int p2), .val (.int p3), .val (.int p4), .val (.int p5), .val (.int (0 : Int32)), .val (.ref b1), .val (.ref b4), .val (.ref b8), .val (.ref b12), .val (.ref b17), .val (.ref b22), .val (.ref b27), .val (.int (1 : Int32))] (hb hby at_296) rfl rfl ?_
    refine own_aload X34 hx (hb hby at_298) rfl rfl rfl ?_
    have f35 := (f29.keep Kq30 (allS g_b27 all0))
    refine own_virtual X34 hx hZ (y := (⟨"com/example/ledgerleaf/ledgerleaf/Findings", "close", "()V"⟩ : MethodName)) (z := (⟨"com/example/ledgerleaf/ledgerleaf/Findings", "close", "()V"⟩ : MethodName)) hown (hw _ (List.mem_of_getElem? (i := 83) rfl)) (hw _ (List.mem_of_getElem? (i := 84) rfl)) (notFace_of_selects (args := #[]) (mvT hZ (hw _ (List.mem_of_getElem? (i := 86) rfl)))) (hw _ (List.mem_of_getElem? (i := 86) rfl)) (hw _ (List.mem_of_getElem? (i := 85) rfl)) (hw _ (List.mem_of_getElem? (i := 32) rfl)) (hw _ (List.mem_of_getElem? (i := 87) rfl)) (by decide) hh34 (by decide) (W := 0) (by decide) (by decide) (by decide) [] [] (by rw [hml]; rfl) Ef0 (own_close_0 l Z a0 hw b27 lb lr de  kd  (0 : Int32) (0 : Int32) T30.heap n0 f35 SD VD g_b27 g_lb g_lr hne ⟨Ef0, Bf0, Rf0, Nf0, Sf0, Cf0, Lf0⟩ ⟨Elb, Mlb, Dlb, Slb⟩ ⟨Elr, Mlr, Dlr, Slr⟩) own_pd0 rfl rfl rfl (hb hby at_300) rfl ?_
    intro v36 T36 L36 X36 hQ36
    obtain ⟨rfl, Nq36, Kq36, Ef36, Cf36⟩ := hQ36
    have N36 := Fr.app N34 Nq36
    show own_Ends p e below _ (T36.setTop (mkF m 303 #[.val (.int p1), .val (.int p2), .val (.int p3), .val (.int p4), .val (.int p5), .val (.int (0 : Int32)), .val (.ref b1), .val (.ref b4), .val (.ref b8), .val (.ref b12), .val (.ref b17), .val (.ref b22), .val (.ref b27), .val (.int (1 : Int32))] []))
    refine own_iload X36 hx (hb hby at_303) rfl rfl ?_
    refine own_ifF X36 hx (hb hby at_305) rfl (by decide) ?_
    refine own_aload X36 hx (hb hby at_308) rfl rfl rfl ?_
    refine own_virtual X36 hx hZ (y := (⟨"com/example/ledgerleaf/ledgerleaf/Findings", "isEmpty", "()Z"⟩ : MethodName)) (z := (⟨"com/example/ledgerleaf/ledgerleaf/Findings", "isEmpty", "()Z"⟩ : MethodName)) hown (hw _ (List.mem_of_getElem? (i := 71) rfl)) (hw _ (List.mem_of_getElem? (i := 72) rfl)) (notFace_of_selects (args := #[]) (mvT hZ (hw _ (List.mem_of_getElem? (i := 74) rfl)))) (hw _ (List.mem_of_getElem? (i := 74) rfl)) (hw _ (List.mem_of_getElem? (i := 73) rfl)) (hw _ (List.mem_of_getElem? (i := 32) rfl)) (hw _ (List.mem_of_getElem? (i := 75) rfl)) (by decide) rfl (by decide) (W := 0) (by decide) (by decide) (by decide) [] [] (by rw [hml]; rfl) Ef36 (own_ise l Z a0 hw b27 (0 : Int64) T36.heap n0 Cf36) own_pd10 rfl rfl rfl (hb hby at_310) rfl ?_
    intro v37 T37 L37 X37 hQ37
    obtain ⟨rfl, Nq37, hh37⟩ := hQ37
    have N37 := Fr.app N36 Nq37
    rw [show (if (lcmpW (0 : Int64) (0 : Int64)) = (0 : Int32) then (1 : Int32) else 0) = (1 : Int32) from by decide]
    show own_Ends p e below _ (T37.setTop (mkF m 313 #[.val (.int p1), .val (.int p2), .val (.int p3), .val (.int p4), .val (.int p5), .val (.int (0 : Int32)), .val (.ref b1), .val (.ref b4), .val (.ref b8), .val (.ref b12), .val (.ref b17), .val (.ref b22), .val (.ref b27), .val (.int (1 : Int32))] [(.int (1 : Int32))]))
    refine own_ifF X37 hx (hb hby at_313) rfl (by decide) ?_
    refine own_iconst X37 hx (1 : Int32) (hb hby at_316) (by decide) rfl ?_
    refine own_goto X37 hx (hb hby at_317) (by decide) rfl ?_
    refine own_istore X37 hx #[.val (.int p1), .val (.int p2), .val (.int p3), .val (.int p4), .val (.int p5), .val (.int (0 : Int32)), .val (.ref b1), .val (.ref b4), .val (.ref b8), .val (.ref b12), .val (.ref b17), .val (.ref b22), .val (.ref b27), .val (.int (1 : Int32))] (hb hby at_321) rfl rfl ?_
    refine own_iload X37 hx (hb hby at_323) rfl rfl ?_
    exact own_retN X37 hx hlocks hret (by simp) (hb hby at_325) (by decide) (by decide) (by decide) ⟨rfl, N37⟩
  · refine own_iload X31 hx (hb hby at_110) rfl rfl ?_
    refine own_iconst X31 hx (1 : Int32) (hb hby at_112) (by decide) rfl ?_
    refine own_icmpF X31 hx (hb hby at_113) rfl (by decide) ?_
    refine own_aload X31 hx (hb hby at_116) rfl rfl rfl ?_
    refine own_new X31 hx hZ hown (hw _ (List.mem_of_getElem? (i := 138) rfl)) (hw _ (List.mem_of_getElem? (i := 139) rfl)) (hw _ (List.mem_of_getElem? (i := 140) rfl)) hh31 (hb hby at_118) (by decide) (by decide) rfl ?_
    intro T38 h38 b38 X38 e38 g38 E38 A38 D38
    have f39 := (f29.keep Kq30 (allS g_b27 all0))
    have g_b38 : n0 ≤ b38 := Nat.le_trans (own_oz f39) (Nat.le_of_eq g38.symm)
    have Fb38_line : Fld Z h38 b38 "com/example/ledgerleaf/ledgerleaf/Finding" "line" "I" (.int (0 : Int32)) := D38 (Or.inr (hw _ (List.mem_of_getElem? (i := 151) rfl))) (ty := .int) (by decide)
    have Fb38_message : Fld Z h38 b38 "com/example/ledgerleaf/ledgerleaf/Finding" "message" "Ljava/lang/String;" .null := D38 (Or.inr (hw _ (List.mem_of_getElem? (i := 153) rfl))) (ty := (.object "java/lang/String")) (by decide)
    refine own_dup X38 hx (hb hby at_121) rfl rfl ?_
    refine own_iloadN X38 hx (hb hby at_122) rfl rfl ?_
    refine own_aload X38 hx (hb hby at_123) rfl rfl rfl ?_
    refine own_special X38 hx hZ (y := (⟨"com/example/ledgerleaf/ledgerleaf/Finding", "<init>", "(ILjava/lang/String;)V"⟩ : MethodName)) rfl hown (hw _ (List.mem_of_getElem? (i := 141) rfl)) (hw _ (List.mem_of_getElem? (i := 142) rfl)) (hw _ (List.mem_of_getElem? (i := 140) rfl)) (hw _ (List.mem_of_getElem? (i := 143) rfl)) (by decide) e38 (by decide) (W := 2) (by decide) (by decide) (by decide) [(.int p2), (.ref b12)] [(.ref b38), (.ref b27)] (by rw [hml]; rfl) (a := b38) (own_fin l Z a0 hw b38 b12 p2 h38 n0 g_b38 A38 D38) own_pd14 rfl rfl rfl (hb hby at_125) rfl ?_
    intro v40 T40 L40 X40 hQ40
    obtain ⟨rfl, Nq40, Kq40, Ee40, Fm40⟩ := hQ40
    have N40 := Fr.app N31 Nq40
    show own_Ends p e below _ (T40.setTop (mkF m 128 #[.val (.int p1), .val (.int p2), .val (.int p3), .val (.int p4), .val (.int p5), .val (.int (1 : Int32)), .val (.ref b1), .val (.ref b4), .val (.ref b8), .val (.ref b12), .val (.ref b17), .val (.ref b22), .val (.ref b27), .val (.int (1 : Int32))] [(.ref b38), (.ref b27)]))
    have f41 := ((f39.ext E38).keep Kq40 (allS g_b38 all0))
    have f42 := ((Ef0.ext E38).keep Kq40)
    have f43 := ((Bf0.ext E38).keep Kq40 (ninS (Nat.ne_of_lt (Nat.lt_of_lt_of_le Ef0.lt (Nat.le_of_eq g38.symm))) nin0))
    have f44 := ((Rf0.ext E38).keep Kq40 (ninS (Nat.ne_of_lt (Nat.lt_of_lt_of_le Ef0.lt (Nat.le_of_eq g38.symm))) nin0))
    have f45 := ((Nf0.ext E38).keep Kq40 (ninS (Nat.ne_of_lt (Nat.lt_of_lt_of_le Ef0.lt (Nat.le_of_eq g38.symm))) nin0))
    have f46 := ((Sf0.ext E38).keep Kq40 (ninS (Nat.ne_of_lt (Nat.lt_of_lt_of_le Ef0.lt (Nat.le_of_eq g38.symm))) nin0))
    have f47 := ((Cf0.ext E38).keep Kq40 (ninS (Nat.ne_of_lt (Nat.lt_of_lt_of_le Ef0.lt (Nat.le_of_eq g38.symm))) nin0))
    have f48 := ((Lf0.ext E38).keep Kq40 (ninS (Nat.ne_of_lt (Nat.lt_of_lt_of_le Ef0.lt (Nat.le_of_eq g38.symm))) nin0))
    have f49 := ((((((((Es16.ext E17).keep Kq21).ext E22).keep Kq26).ext E27).keep Kq30).ext E38).keep Kq40)
    have f50 := ((((((((Vs16.ext E17).keep Kq21 (ninS (Nat.ne_of_lt (Nat.lt_of_lt_of_le Es16.lt (Nat.le_of_eq g17.symm))) nin0)).ext E22).keep Kq26 (ninS (Nat.ne_of_lt (Nat.lt_of_lt_of_le ((Es16.ext E17).keep Kq21).lt (Nat.le_of_eq g22.symm))) nin0)).ext E27).keep Kq30 (ninS (Nat.ne_of_lt (Nat.lt_of_lt_of_le ((((Es16.ext E17).keep Kq21).ext E22).keep Kq26).lt (Nat.le_of_eq g27.symm))) nin0)).ext E38).keep Kq40 (ninS (Nat.ne_of_lt (Nat.lt_of_lt_of_le ((((((Es16.ext E17).keep Kq21).ext E22).keep Kq26).ext E27).keep Kq30).lt (Nat.le_of_eq g38.symm))) nin0))
    have f51 := ((((((((Cs16.ext E17).keep Kq21 (ninS (Nat.ne_of_lt (Nat.lt_of_lt_of_le Es16.lt (Nat.le_of_eq g17.symm))) nin0)).ext E22).keep Kq26 (ninS (Nat.ne_of_lt (Nat.lt_of_lt_of_le ((Es16.ext E17).keep Kq21).lt (Nat.le_of_eq g22.symm))) nin0)).ext E27).keep Kq30 (ninS (Nat.ne_of_lt (Nat.lt_of_lt_of_le ((((Es16.ext E17).keep Kq21).ext E22).keep Kq26).lt (Nat.le_of_eq g27.symm))) nin0)).ext E38).keep Kq40 (ninS (Nat.ne_of_lt (Nat.lt_of_lt_of_le ((((((Es16.ext E17).keep Kq21).ext E22).keep Kq26).ext E27).keep Kq30).lt (Nat.le_of_eq g38.symm))) nin0))
    have f52 := ((((((((Ks16.ext E17).keep Kq21 (ninS (Nat.ne_of_lt (Nat.lt_of_lt_of_le Ks16.lt (Nat.le_of_eq g17.symm))) nin0)).ext E22).keep Kq26 (ninS (Nat.ne_of_lt (Nat.lt_of_lt_of_le ((Ks16.ext E17).keep Kq21 (ninS (Nat.ne_of_lt (Nat.lt_of_lt_of_le Ks16.lt (Nat.le_of_eq g17.symm))) nin0)).lt (Nat.le_of_eq g22.symm))) nin0)).ext E27).keep Kq30 (ninS (Nat.ne_of_lt (Nat.lt_of_lt_of_le ((((Ks16.ext E17).keep Kq21 (ninS (Nat.ne_of_lt (Nat.lt_of_lt_of_le Ks16.lt (Nat.le_of_eq g17.symm))) nin0)).ext E22).keep Kq26 (ninS (Nat.ne_of_lt (Nat.lt_of_lt_of_le ((Ks16.ext E17).keep Kq21 (ninS (Nat.ne_of_lt (Nat.lt_of_lt_of_le Ks16.lt (Nat.le_of_eq g17.symm))) nin0)).lt (Nat.le_of_eq g22.symm))) nin0)).lt (Nat.le_of_eq g27.symm))) nin0)).ext E38).keep Kq40 (ninS (Nat.ne_of_lt (Nat.lt_of_lt_of_le ((((((Ks16.ext E17).keep Kq21 (ninS (Nat.ne_of_lt (Nat.lt_of_lt_of_le Ks16.lt (Nat.le_of_eq g17.symm))) nin0)).ext E22).keep Kq26 (ninS (Nat.ne_of_lt (Nat.lt_of_lt_of_le ((Ks16.ext E17).keep Kq21 (ninS (Nat.ne_of_lt (Nat.lt_of_lt_of_le Ks16.lt (Nat.le_of_eq g17.symm))) nin0)).lt (Nat.le_of_eq g22.symm))) nin0)).ext E27).keep Kq30 (ninS (Nat.ne_of_lt (Nat.lt_of_lt_of_le ((((Ks16.ext E17).keep Kq21 (ninS (Nat.ne_of_lt (Nat.lt_of_lt_of_le Ks16.lt (Nat.le_of_eq g17.symm))) nin0)).ext E22).keep Kq26 (ninS (Nat.ne_of_lt (Nat.lt_of_lt_of_le ((Ks16.ext E17).keep Kq21 (ninS (Nat.ne_of_lt (Nat.lt_of_lt_of_le Ks16.lt (Nat.le_of_eq g17.symm))) nin0)).lt (Nat.le_of_eq g22.symm))) nin0)).lt (Nat.le_of_eq g27.symm))) nin0)).lt (Nat.le_of_eq g38.symm))) nin0))
    have f53 := ((Elb.ext E38).keep Kq40)
    have f54 := ((Mlb.ext E38).keep Kq40 (ninS (Nat.ne_of_lt (Nat.lt_of_lt_of_le Elb.lt (Nat.le_of_eq g38.symm))) nin0))
    have f55 := ((Dlb.ext E38).keep Kq40 (ninS (Nat.ne_of_lt (Nat.lt_of_lt_of_le Elb.lt (Nat.le_of_eq g38.symm))) nin0))
    have f56 := ((Slb.ext E38).keep Kq40 (ninS (Nat.ne_of_lt (Nat.lt_of_lt_of_le Elb.lt (Nat.le_of_eq g38.symm))) nin0))
    refine own_virtual X40 hx hZ (y := (⟨"com/example/ledgerleaf/ledgerleaf/Findings", "add", "(Lcom/example/ledgerleaf/ledgerleaf/Finding;)V"⟩ : MethodName)) (z := (⟨"com/example/ledgerleaf/ledgerleaf/Findings", "add", "(Lcom/example/ledgerleaf/ledgerleaf/Finding;)V"⟩ : MethodName)) hown (hw _ (List.mem_of_getElem? (i := 154) rfl)) (hw _ (List.mem_of_getElem? (i := 155) rfl)) (notFace_of_selects (args := #[]) (mvT hZ (hw _ (List.mem_of_getElem? (i := 157) rfl)))) (hw _ (List.mem_of_getElem? (i := 157) rfl)) (hw _ (List.mem_of_getElem? (i := 156) rfl)) (hw _ (List.mem_of_getElem? (i := 32) rfl)) (hw _ (List.mem_of_getElem? (i := 158) rfl)) (by decide) rfl (by decide) (W := 0) (by decide) (by decide) (by decide) [(.ref b38)] [] (by rw [hml]; rfl) f42 (own_fadd_0 l Z a0 hw b27 b38 lb lr b12 de  kd  (0 : Int32) c2 zc T40.heap n0 f41 SC hzc SD VD g_b27 g_lb ⟨f42, f43, f44, f45, f46, f47, f48⟩ Ee40 Fm40 ⟨_, _, _, _, _, f49, f50, f51, f52, co16, hb16, (Nat.le_of_ble_eq_true rfl)⟩ ⟨f53, f54, f55, f56⟩) own_pd15 rfl rfl rfl (hb hby at_128) rfl ?_
    intro v57 T57 L57 X57 hQ57
    obtain ⟨rfl, Nq57, Kq57, b57, k57, g_b57, sz_b57, ⟨Ef57, Bf57, Rf57, Nf57, Sf57, Cf57, Lf57⟩, Al57, V57, Ov57⟩ := hQ57
    have N57 := Fr.app N40 Nq57
    obtain ⟨El57, Ml57, Dl57, Sl57⟩ := Al57
    show own_Ends p e below _ (T57.setTop (mkF m 131 #[.val (.int p1), .val (.int p2), .val (.int p3), .val (.int p4), .val (.int p5), .val (.int (1 : Int32)), .val (.ref b1), .val (.ref b4), .val (.ref b8), .val (.ref b12), .val (.ref b17), .val (.ref b22), .val (.ref b27), .val (.int (1 : Int32))] []))
    refine own_iload X57 hx (hb hby at_131) rfl rfl ?_
    refine own_ifF X57 hx (hb hby at_133) rfl (by decide) ?_
    refine own_aload X57 hx (hb hby at_136) rfl rfl rfl ?_
    refine own_virtual X57 hx hZ (y := (⟨"com/example/ledgerleaf/ledgerleaf/Findings", "isEmpty", "()Z"⟩ : MethodName)) (z := (⟨"com/example/ledgerleaf/ledgerleaf/Findings", "isEmpty", "()Z"⟩ : MethodName)) hown (hw _ (List.mem_of_getElem? (i := 71) rfl)) (hw _ (List.mem_of_getElem? (i := 72) rfl)) (notFace_of_selects (args := #[]) (mvT hZ (hw _ (List.mem_of_getElem? (i := 74) rfl)))) (hw _ (List.mem_of_getElem? (i := 74) rfl)) (hw _ (List.mem_of_getElem? (i := 73) rfl)) (hw _ (List.mem_of_getElem? (i := 32) rfl)) (hw _ (List.mem_of_getElem? (i := 75) rfl)) (by decide) rfl (by decide) (W := 0) (by decide) (by decide) (by decide) [] [] (by rw [hml]; rfl) Ef57 (own_ise l Z a0 hw b27 (1 : Int64) T57.heap n0 Cf57) own_pd10 rfl rfl rfl (hb hby at_138) rfl ?_
    intro v58 T58 L58 X58 hQ58
    obtain ⟨rfl, Nq58, hh58⟩ := hQ58
    have N58 := Fr.app N57 Nq58
    rw [show (if (lcmpW (1 : Int64) (0 : Int64)) = (0 : Int32) then (1 : Int32) else 0) = (0 : Int32) from by decide]
    show own_Ends p e below _ (T58.setTop (mkF m 141 #[.val (.int p1), .val (.int p2), .val (.int p3), .val (.int p4), .val (.int p5), .val (.int (1 : Int32)), .val (.ref b1), .val (.ref b4), .val (.ref b8), .val (.ref b12), .val (.ref b17), .val (.ref b22), .val (.ref b27), .val (.int (1 : Int32))] [(.int (0 : Int32))]))
    refine own_ifF X58 hx (hb hby at_141) rfl (by decide) ?_
    refine own_iconst X58 hx (1 : Int32) (hb hby at_144) (by decide) rfl ?_
    refine own_goto X58 hx (hb hby at_145) (by decide) rfl ?_
    refine own_istore X58 hx #[.val (.int p1), .val (.int p2), .val (.int p3), .val (.int p4), .val (.int p5), .val (.int (1 : Int32)), .val (.ref b1), .val (.ref b4), .val (.ref b8), .val (.ref b12), .val (.ref b17), .val (.ref b22), .val (.ref b27), .val (.int (1 : Int32))] (hb hby at_149) rfl rfl ?_
    refine own_iload X58 hx (hb hby at_151) rfl rfl ?_
    refine own_iconst X58 hx (2 : Int32) (hb hby at_153) (by decide) rfl ?_
    refine own_icmpT X58 hx (hb hby at_154) (by decide) rfl (by decide) ?_
    refine own_iload X58 hx (hb hby at_192) rfl rfl ?_
    refine own_iconst X58 hx (3 : Int32) (hb hby at_194) (by decide) rfl ?_
    refine own_icmpT X58 hx (hb hby at_195) (by decide) rfl (by decide) ?_
    refine own_iload X58 hx (hb hby at_233) rfl rfl ?_
    refine own_ifF X58 hx (hb hby at_235) rfl (by decide) ?_
    refine own_aload X58 hx (hb hby at_238) rfl rfl rfl ?_
    refine own_virtual X58 hx hZ (y := (⟨"com/example/ledgerleaf/ledgerleaf/Findings", "isEmpty", "()Z"⟩ : MethodName)) (z := (⟨"com/example/ledgerleaf/ledgerleaf/Findings", "isEmpty", "()Z"⟩ : MethodName)) hown (hw _ (List.mem_of_getElem? (i := 71) rfl)) (hw _ (List.mem_of_getElem? (i := 72) rfl)) (notFace_of_selects (args := #[]) (mvT hZ (hw _ (List.mem_of_getElem? (i := 74) rfl)))) (hw _ (List.mem_of_getElem? (i := 74) rfl)) (hw _ (List.mem_of_getElem? (i := 73) rfl)) (hw _ (List.mem_of_getElem? (i := 32) rfl)) (hw _ (List.mem_of_getElem? (i := 75) rfl)) (by decide) hh58 (by decide) (W := 0) (by decide) (by decide) (by decide) [] [] (by rw [hml]; rfl) Ef57 (own_ise l Z a0 hw b27 (1 : Int64) T57.heap n0 Cf57) own_pd10 rfl rfl rfl (hb hby at_240) rfl ?_
    intro v59 T59 L59 X59 hQ59
    obtain ⟨rfl, Nq59, hh59⟩ := hQ59
    have N59 := Fr.app N58 Nq59
    rw [show (if (lcmpW (1 : Int64) (0 : Int64)) = (0 : Int32) then (1 : Int32) else 0) = (0 : Int32) from by decide]
    show own_Ends p e below _ (T59.setTop (mkF m 243 #[.val (.int p1), .val (.int p2), .val (.int p3), .val (.int p4), .val (.int p5), .val (.int (1 : Int32)), .val (.ref b1), .val (.ref b4), .val (.ref b8), .val (.ref b12), .val (.ref b17), .val (.ref b22), .val (.ref b27), .val (.int (1 : Int32))] [(.int (0 : Int32))]))
    refine own_iload X59 hx (hb hby at_243) rfl rfl ?_
    refine own_ifT X59 hx (hb hby at_245) (by decide) rfl (by decide) ?_
    refine own_iconst X59 hx (0 : Int32) (hb hby at_252) (by decide) rfl ?_
    refine own_icmpF X59 hx (hb hby at_253) rfl (by decide) ?_
    refine own_iconst X59 hx (1 : Int32) (hb hby at_256) (by decide) rfl ?_
    refine own_goto X59 hx (hb hby at_257) (by decide) rfl ?_
    refine own_istore X59 hx #[.val (.int p1), .val (.int p2), .val (.int p3), .val (.int p4), .val (.int p5), .val (.int (1 : Int32)), .val (.ref b1), .val (.ref b4), .val (.ref b8), .val (.ref b12), .val (.ref b17), .val (.ref b22), .val (.ref b27), .val (.int (1 : Int32))] (hb hby at_261) rfl rfl ?_
    refine own_iload X59 hx (hb hby at_263) rfl rfl ?_
    refine own_ifF X59 hx (hb hby at_265) rfl (by decide) ?_
    refine own_aload X59 hx (hb hby at_268) rfl rfl rfl ?_
    refine own_virtual X59 hx hZ (y := (⟨"com/example/ledgerleaf/ledgerleaf/Findings", "isEmpty", "()Z"⟩ : MethodName)) (z := (⟨"com/example/ledgerleaf/ledgerleaf/Findings", "isEmpty", "()Z"⟩ : MethodName)) hown (hw _ (List.mem_of_getElem? (i := 71) rfl)) (hw _ (List.mem_of_getElem? (i := 72) rfl)) (notFace_of_selects (args := #[]) (mvT hZ (hw _ (List.mem_of_getElem? (i := 74) rfl)))) (hw _ (List.mem_of_getElem? (i := 74) rfl)) (hw _ (List.mem_of_getElem? (i := 73) rfl)) (hw _ (List.mem_of_getElem? (i := 32) rfl)) (hw _ (List.mem_of_getElem? (i := 75) rfl)) (by decide) hh59 (by decide) (W := 0) (by decide) (by decide) (by decide) [] [] (by rw [hml]; rfl) Ef57 (own_ise l Z a0 hw b27 (1 : Int64) T57.heap n0 Cf57) own_pd10 rfl rfl rfl (hb hby at_270) rfl ?_
    intro v60 T60 L60 X60 hQ60
    obtain ⟨rfl, Nq60, hh60⟩ := hQ60
    have N60 := Fr.app N59 Nq60
    rw [show (if (lcmpW (1 : Int64) (0 : Int64)) = (0 : Int32) then (1 : Int32) else 0) = (0 : Int32) from by decide]
    show own_Ends p e below _ (T60.setTop (mkF m 273 #[.val (.int p1), .val (.int p2), .val (.int p3), .val (.int p4), .val (.int p5), .val (.int (1 : Int32)), .val (.ref b1), .val (.ref b4), .val (.ref b8), .val (.ref b12), .val (.ref b17), .val (.ref b22), .val (.ref b27), .val (.int (1 : Int32))] [(.int (0 : Int32))]))
    refine own_aload X60 hx (hb hby at_273) rfl rfl rfl ?_
    refine own_virtual X60 hx hZ (y := (⟨"com/example/ledgerleaf/ledgerleaf/Findings", "size", "()J"⟩ : MethodName)) (z := (⟨"com/example/ledgerleaf/ledgerleaf/Findings", "size", "()J"⟩ : MethodName)) hown (hw _ (List.mem_of_getElem? (i := 78) rfl)) (hw _ (List.mem_of_getElem? (i := 79) rfl)) (notFace_of_selects (args := #[]) (mvT hZ (hw _ (List.mem_of_getElem? (i := 81) rfl)))) (hw _ (List.mem_of_getElem? (i := 81) rfl)) (hw _ (List.mem_of_getElem? (i := 80) rfl)) (hw _ (List.mem_of_getElem? (i := 32) rfl)) (hw _ (List.mem_of_getElem? (i := 82) rfl)) (by decide) hh60 (by decide) (W := 1) (by decide) (by decide) (by decide) [] [(.int (0 : Int32))] (by rw [hml]; rfl) Ef57 (own_fsz l Z a0 hw b27 (1 : Int64) T57.heap n0 Cf57) own_pd13 rfl rfl rfl (hb hby at_275) rfl ?_
    intro v61 T61 L61 X61 hQ61
    obtain ⟨rfl, Nq61, hh61⟩ := hQ61
    have N61 := Fr.app N60 Nq61
    show own_Ends p e below _ (T61.setTop (mkF m 278 #[.val (.int p1), .val (.int p2), .val (.int p3), .val (.int p4), .val (.int p5), .val (.int (1 : Int32)), .val (.ref b1), .val (.ref b4), .val (.ref b8), .val (.ref b12), .val (.ref b17), .val (.ref b22), .val (.ref b27), .val (.int (1 : Int32))] [(.long (1 : Int64)), (.int (0 : Int32))]))
    refine own_lconst X61 hx (0 : Int64) (hb hby at_278) (by decide) rfl ?_
    refine own_lcmp X61 hx (hb hby at_279) rfl ?_
    rw [show (lcmpW (1 : Int64) (0 : Int64)) = (1 : Int32) from by decide]
    refine own_ifT X61 hx (hb hby at_280) (by decide) rfl (by decide) ?_
    refine own_iconst X61 hx (0 : Int32) (hb hby at_287) (by decide) rfl ?_
    refine own_icmpF X61 hx (hb hby at_288) rfl (by decide) ?_
    refine own_iconst X61 hx (1 : Int32) (hb hby at_291) (by decide) rfl ?_
    refine own_goto X61 hx (hb hby at_292) (by decide) rfl ?_
    refine own_istore X61 hx #[.val (.int p1), .val (.int p2), .val (.int p3), .val (.int p4), .val (.int p5), .val (.int (1 : Int32)), .val (.ref b1), .val (.ref b4), .val (.ref b8), .val (.ref b12), .val (.ref b17), .val (.ref b22), .val (.ref b27), .val (.int (1 : Int32))] (hb hby at_296) rfl rfl ?_
    refine own_aload X61 hx (hb hby at_298) rfl rfl rfl ?_
    have f62 := (f41.keep Kq57 (allS g_b27 (allS g_lb all0)))
    have f63 := (((Elr.ext E38).keep Kq40).keep Kq57)
    have f64 := (((Mlr.ext E38).keep Kq40 (ninS (Nat.ne_of_lt (Nat.lt_of_lt_of_le Elr.lt (Nat.le_of_eq g38.symm))) nin0)).keep Kq57 (ninS (ne_exa Elr Ef0 (by decide)) (ninS (Ne.symm hne) nin0)))
    have f65 := (((Dlr.ext E38).keep Kq40 (ninS (Nat.ne_of_lt (Nat.lt_of_lt_of_le Elr.lt (Nat.le_of_eq g38.symm))) nin0)).keep Kq57 (ninS (ne_exa Elr Ef0 (by decide)) (ninS (Ne.symm hne) nin0)))
    have f66 := (((Slr.ext E38).keep Kq40 (ninS (Nat.ne_of_lt (Nat.lt_of_lt_of_le Elr.lt (Nat.le_of_eq g38.symm))) nin0)).keep Kq57 (ninS (ne_exa Elr Ef0 (by decide)) (ninS (Ne.symm hne) nin0)))
    refine own_virtual X61 hx hZ (y := (⟨"com/example/ledgerleaf/ledgerleaf/Findings", "close", "()V"⟩ : MethodName)) (z := (⟨"com/example/ledgerleaf/ledgerleaf/Findings", "close", "()V"⟩ : MethodName)) hown (hw _ (List.mem_of_getElem? (i := 83) rfl)) (hw _ (List.mem_of_getElem? (i := 84) rfl)) (notFace_of_selects (args := #[]) (mvT hZ (hw _ (List.mem_of_getElem? (i := 86) rfl)))) (hw _ (List.mem_of_getElem? (i := 86) rfl)) (hw _ (List.mem_of_getElem? (i := 85) rfl)) (hw _ (List.mem_of_getElem? (i := 32) rfl)) (hw _ (List.mem_of_getElem? (i := 87) rfl)) (by decide) hh61 (by decide) (W := 0) (by decide) (by decide) (by decide) [] [] (by rw [hml]; rfl) Ef57 (own_close_1 l Z a0 hw b27 lb lr de b57 b38 kd k57 ((0 : Int32) + (1 : Int32)) (0 : Int32) T57.heap n0 f62 SD VD g_b27 g_lb g_lr g_b57 hne ⟨Ef57, Bf57, Rf57, Nf57, Sf57, Cf57, Lf57⟩ ⟨El57, Ml57, Dl57, Sl57⟩ ⟨f63, f64, f65, f66⟩ V57) own_pd0 rfl rfl rfl (hb hby at_300) rfl ?_
    intro v67 T67 L67 X67 hQ67
    obtain ⟨rfl, Nq67, Kq67, Ef67, Cf67⟩ := hQ67
    have N67 := Fr.app N61 Nq67
    show own_Ends p e below _ (T67.setTop (mkF m 303 #[.val (.int p1), .val (.int p2), .val (.int p3), .val (.int p4), .val (.int p5), .val (.int (1 : Int32)), .val (.ref b1), .val (.ref b4), .val (.ref b8), .val (.ref b12), .val (.ref b17), .val (.ref b22), .val (.ref b27), .val (.int (1 : Int32))] []))
    refine own_iload X67 hx (hb hby at_303) rfl rfl ?_
    refine own_ifF X67 hx (hb hby at_305) rfl (by decide) ?_
    refine own_aload X67 hx (hb hby at_308) rfl rfl rfl ?_
    refine own_virtual X67 hx hZ (y := (⟨"com/example/ledgerleaf/ledgerleaf/Findings", "isEmpty", "()Z"⟩ : MethodName)) (z := (⟨"com/example/ledgerleaf/ledgerleaf/Findings", "isEmpty", "()Z"⟩ : MethodName)) hown (hw _ (List.mem_of_getElem? (i := 71) rfl)) (hw _ (List.mem_of_getElem? (i := 72) rfl)) (notFace_of_selects (args := #[]) (mvT hZ (hw _ (List.mem_of_getElem? (i := 74) rfl)))) (hw _ (List.mem_of_getElem? (i := 74) rfl)) (hw _ (List.mem_of_getElem? (i := 73) rfl)) (hw _ (List.mem_of_getElem? (i := 32) rfl)) (hw _ (List.mem_of_getElem? (i := 75) rfl)) (by decide) rfl (by decide) (W := 0) (by decide) (by decide) (by decide) [] [] (by rw [hml]; rfl) Ef67 (own_ise l Z a0 hw b27 (0 : Int64) T67.heap n0 Cf67) own_pd10 rfl rfl rfl (hb hby at_310) rfl ?_
    intro v68 T68 L68 X68 hQ68
    obtain ⟨rfl, Nq68, hh68⟩ := hQ68
    have N68 := Fr.app N67 Nq68
    rw [show (if (lcmpW (0 : Int64) (0 : Int64)) = (0 : Int32) then (1 : Int32) else 0) = (1 : Int32) from by decide]
    show own_Ends p e below _ (T68.setTop (mkF m 313 #[.val (.int p1), .val (.int p2), .val (.int p3), .val (.int p4), .val (.int p5), .val (.int (1 : Int32)), .val (.ref b1), .val (.ref b4), .val (.ref b8), .val (.ref b12), .val (.ref b17), .val (.ref b22), .val (.ref b27), .val (.int (1 : Int32))] [(.int (1 : Int32))]))
    refine own_ifF X68 hx (hb hby at_313) rfl (by decide) ?_
    refine own_iconst X68 hx (1 : Int32) (hb hby at_316) (by decide) rfl ?_
    refine own_goto X68 hx (hb hby at_317) (by decide) rfl ?_
    refine own_istore X68 hx #[.val (.int p1), .val (.int p2), .val (.int p3), .val (.int p4), .val (.int p5), .val (.int (1 : Int32)), .val (.ref b1), .val (.ref b4), .val (.ref b8), .val (.ref b12), .val (.ref b17), .val (.ref b22), .val (.ref b27), .val (.int (1 : Int32))] (hb hby at_321) rfl rfl ?_
    refine own_iload X68 hx (hb hby at_323) rfl rfl ?_
    exact own_retN X68 hx hlocks hret (by simp) (hb hby at_325) (by decide) (by decide) (by decide) ⟨rfl, N68⟩
  · refine own_iload X31 hx (hb hby at_110) rfl rfl ?_
    refine own_iconst X31 hx (1 : Int32) (hb hby at_112) (by decide) rfl ?_
    refine own_icmpF X31 hx (hb hby at_113) rfl (by decide) ?_
    refine own_aload X31 hx (hb hby at_116) rfl rfl rfl ?_
    refine own_new X31 hx hZ hown (hw _ (List.mem_of_getElem? (i := 138) rfl)) (hw _ (List.mem_of_getElem? (i := 139) rfl)) (hw _ (List.mem_of_getElem? (i := 140) rfl)) hh31 (hb hby at_118) (by decide) (by decide) rfl ?_
    intro T69 h69 b69 X69 e69 g69 E69 A69 D69
    have f70 := (f29.keep Kq30 (allS g_b27 all0))
    have g_b69 : n0 ≤ b69 := Nat.le_trans (own_oz f70) (Nat.le_of_eq g69.symm)
    have Fb69_line : Fld Z h69 b69 "com/example/ledgerleaf/ledgerleaf/Finding" "line" "I" (.int (0 : Int32)) := D69 (Or.inr (hw _ (List.mem_of_getElem? (i := 151) rfl))) (ty := .int) (by decide)
    have Fb69_message : Fld Z h69 b69 "com/example/ledgerleaf/ledgerleaf/Finding" "message" "Ljava/lang/String;" .null := D69 (Or.inr (hw _ (List.mem_of_getElem? (i := 153) rfl))) (ty := (.object "java/lang/String")) (by decide)
    refine own_dup X69 hx (hb hby at_121) rfl rfl ?_
    refine own_iloadN X69 hx (hb hby at_122) rfl rfl ?_
    refine own_aload X69 hx (hb hby at_123) rfl rfl rfl ?_
    refine own_special X69 hx hZ (y := (⟨"com/example/ledgerleaf/ledgerleaf/Finding", "<init>", "(ILjava/lang/String;)V"⟩ : MethodName)) rfl hown (hw _ (List.mem_of_getElem? (i := 141) rfl)) (hw _ (List.mem_of_getElem? (i := 142) rfl)) (hw _ (List.mem_of_getElem? (i := 140) rfl)) (hw _ (List.mem_of_getElem? (i := 143) rfl)) (by decide) e69 (by decide) (W := 2) (by decide) (by decide) (by decide) [(.int p2), (.ref b12)] [(.ref b69), (.ref b27)] (by rw [hml]; rfl) (a := b69) (own_fin l Z a0 hw b69 b12 p2 h69 n0 g_b69 A69 D69) own_pd14 rfl rfl rfl (hb hby at_125) rfl ?_
    intro v71 T71 L71 X71 hQ71
    obtain ⟨rfl, Nq71, Kq71, Ee71, Fm71⟩ := hQ71
    have N71 := Fr.app N31 Nq71
    show own_Ends p e below _ (T71.setTop (mkF m 128 #[.val (.int p1), .val (.int p2), .val (.int p3), .val (.int p4), .val (.int p5), .val (.int (2 : Int32)), .val (.ref b1), .val (.ref b4), .val (.ref b8), .val (.ref b12), .val (.ref b17), .val (.ref b22), .val (.ref b27), .val (.int (1 : Int32))] [(.ref b69), (.ref b27)]))
    have f72 := ((f70.ext E69).keep Kq71 (allS g_b69 all0))
    have f73 := ((Ef0.ext E69).keep Kq71)
    have f74 := ((Bf0.ext E69).keep Kq71 (ninS (Nat.ne_of_lt (Nat.lt_of_lt_of_le Ef0.lt (Nat.le_of_eq g69.symm))) nin0))
    have f75 := ((Rf0.ext E69).keep Kq71 (ninS (Nat.ne_of_lt (Nat.lt_of_lt_of_le Ef0.lt (Nat.le_of_eq g69.symm))) nin0))
    have f76 := ((Nf0.ext E69).keep Kq71 (ninS (Nat.ne_of_lt (Nat.lt_of_lt_of_le Ef0.lt (Nat.le_of_eq g69.symm))) nin0))
    have f77 := ((Sf0.ext E69).keep Kq71 (ninS (Nat.ne_of_lt (Nat.lt_of_lt_of_le Ef0.lt (Nat.le_of_eq g69.symm))) nin0))
    have f78 := ((Cf0.ext E69).keep Kq71 (ninS (Nat.ne_of_lt (Nat.lt_of_lt_of_le Ef0.lt (Nat.le_of_eq g69.symm))) nin0))
    have f79 := ((Lf0.ext E69).keep Kq71 (ninS (Nat.ne_of_lt (Nat.lt_of_lt_of_le Ef0.lt (Nat.le_of_eq g69.symm))) nin0))
    have f80 := ((((((((Es16.ext E17).keep Kq21).ext E22).keep Kq26).ext E27).keep Kq30).ext E69).keep Kq71)
    have f81 := ((((((((Vs16.ext E17).keep Kq21 (ninS (Nat.ne_of_lt (Nat.lt_of_lt_of_le Es16.lt (Nat.le_of_eq g17.symm))) nin0)).ext E22).keep Kq26 (ninS (Nat.ne_of_lt (Nat.lt_of_lt_of_le ((Es16.ext E17).keep Kq21).lt (Nat.le_of_eq g22.symm))) nin0)).ext E27).keep Kq30 (ninS (Nat.ne_of_lt (Nat.lt_of_lt_of_le ((((Es16.ext E17).keep Kq21).ext E22).keep Kq26).lt (Nat.le_of_eq g27.symm))) nin0)).ext E69).keep Kq71 (ninS (Nat.ne_of_lt (Nat.lt_of_lt_of_le ((((((Es16.ext E17).keep Kq21).ext E22).keep Kq26).ext E27).keep Kq30).lt (Nat.le_of_eq g69.symm))) nin0))
    have f82 := ((((((((Cs16.ext E17).keep Kq21 (ninS (Nat.ne_of_lt (Nat.lt_of_lt_of_le Es16.lt (Nat.le_of_eq g17.symm))) nin0)).ext E22).keep Kq26 (ninS (Nat.ne_of_lt (Nat.lt_of_lt_of_le ((Es16.ext E17).keep Kq21).lt (Nat.le_of_eq g22.symm))) nin0)).ext E27).keep Kq30 (ninS (Nat.ne_of_lt (Nat.lt_of_lt_of_le ((((Es16.ext E17).keep Kq21).ext E22).keep Kq26).lt (Nat.le_of_eq g27.symm))) nin0)).ext E69).keep Kq71 (ninS (Nat.ne_of_lt (Nat.lt_of_lt_of_le ((((((Es16.ext E17).keep Kq21).ext E22).keep Kq26).ext E27).keep Kq30).lt (Nat.le_of_eq g69.symm))) nin0))
    have f83 := ((((((((Ks16.ext E17).keep Kq21 (ninS (Nat.ne_of_lt (Nat.lt_of_lt_of_le Ks16.lt (Nat.le_of_eq g17.symm))) nin0)).ext E22).keep Kq26 (ninS (Nat.ne_of_lt (Nat.lt_of_lt_of_le ((Ks16.ext E17).keep Kq21 (ninS (Nat.ne_of_lt (Nat.lt_of_lt_of_le Ks16.lt (Nat.le_of_eq g17.symm))) nin0)).lt (Nat.le_of_eq g22.symm))) nin0)).ext E27).keep Kq30 (ninS (Nat.ne_of_lt (Nat.lt_of_lt_of_le ((((Ks16.ext E17).keep Kq21 (ninS (Nat.ne_of_lt (Nat.lt_of_lt_of_le Ks16.lt (Nat.le_of_eq g17.symm))) nin0)).ext E22).keep Kq26 (ninS (Nat.ne_of_lt (Nat.lt_of_lt_of_le ((Ks16.ext E17).keep Kq21 (ninS (Nat.ne_of_lt (Nat.lt_of_lt_of_le Ks16.lt (Nat.le_of_eq g17.symm))) nin0)).lt (Nat.le_of_eq g22.symm))) nin0)).lt (Nat.le_of_eq g27.symm))) nin0)).ext E69).keep Kq71 (ninS (Nat.ne_of_lt (Nat.lt_of_lt_of_le ((((((Ks16.ext E17).keep Kq21 (ninS (Nat.ne_of_lt (Nat.lt_of_lt_of_le Ks16.lt (Nat.le_of_eq g17.symm))) nin0)).ext E22).keep Kq26 (ninS (Nat.ne_of_lt (Nat.lt_of_lt_of_le ((Ks16.ext E17).keep Kq21 (ninS (Nat.ne_of_lt (Nat.lt_of_lt_of_le Ks16.lt (Nat.le_of_eq g17.symm))) nin0)).lt (Nat.le_of_eq g22.symm))) nin0)).ext E27).keep Kq30 (ninS (Nat.ne_of_lt (Nat.lt_of_lt_of_le ((((Ks16.ext E17).keep Kq21 (ninS (Nat.ne_of_lt (Nat.lt_of_lt_of_le Ks16.lt (Nat.le_of_eq g17.symm))) nin0)).ext E22).keep Kq26 (ninS (Nat.ne_of_lt (Nat.lt_of_lt_of_le ((Ks16.ext E17).keep Kq21 (ninS (Nat.ne_of_lt (Nat.lt_of_lt_of_le Ks16.lt (Nat.le_of_eq g17.symm))) nin0)).lt (Nat.le_of_eq g22.symm))) nin0)).lt (Nat.le_of_eq g27.symm))) nin0)).lt (Nat.le_of_eq g69.symm))) nin0))
    have f84 := ((Elb.ext E69).keep Kq71)
    have f85 := ((Mlb.ext E69).keep Kq71 (ninS (Nat.ne_of_lt (Nat.lt_of_lt_of_le Elb.lt (Nat.le_of_eq g69.symm))) nin0))
    have f86 := ((Dlb.ext E69).keep Kq71 (ninS (Nat.ne_of_lt (Nat.lt_of_lt_of_le Elb.lt (Nat.le_of_eq g69.symm))) nin0))
    have f87 := ((Slb.ext E69).keep Kq71 (ninS (Nat.ne_of_lt (Nat.lt_of_lt_of_le Elb.lt (Nat.le_of_eq g69.symm))) nin0))
    refine own_virtual X71 hx hZ (y := (⟨"com/example/ledgerleaf/ledgerleaf/Findings", "add", "(Lcom/example/ledgerleaf/ledgerleaf/Finding;)V"⟩ : MethodName)) (z := (⟨"com/example/ledgerleaf/ledgerleaf/Findings", "add", "(Lcom/example/ledgerleaf/ledgerleaf/Finding;)V"⟩ : MethodName)) hown (hw _ (List.mem_of_getElem? (i := 154) rfl)) (hw _ (List.mem_of_getElem? (i := 155) rfl)) (notFace_of_selects (args := #[]) (mvT hZ (hw _ (List.mem_of_getElem? (i := 157) rfl)))) (hw _ (List.mem_of_getElem? (i := 157) rfl)) (hw _ (List.mem_of_getElem? (i := 156) rfl)) (hw _ (List.mem_of_getElem? (i := 32) rfl)) (hw _ (List.mem_of_getElem? (i := 158) rfl)) (by decide) rfl (by decide) (W := 0) (by decide) (by decide) (by decide) [(.ref b69)] [] (by rw [hml]; rfl) f73 (own_fadd_0 l Z a0 hw b27 b69 lb lr b12 de  kd  (0 : Int32) c2 zc T71.heap n0 f72 SC hzc SD VD g_b27 g_lb ⟨f73, f74, f75, f76, f77, f78, f79⟩ Ee71 Fm71 ⟨_, _, _, _, _, f80, f81, f82, f83, co16, hb16, (Nat.le_of_ble_eq_true rfl)⟩ ⟨f84, f85, f86, f87⟩) own_pd15 rfl rfl rfl (hb hby at_128) rfl ?_
    intro v88 T88 L88 X88 hQ88
    obtain ⟨rfl, Nq88, Kq88, b88, k88, g_b88, sz_b88, ⟨Ef88, Bf88, Rf88, Nf88, Sf88, Cf88, Lf88⟩, Al88, V88, Ov88⟩ := hQ88
    have N88 := Fr.app N71 Nq88
    obtain ⟨El88, Ml88, Dl88, Sl88⟩ := Al88
    show own_Ends p e below _ (T88.setTop (mkF m 131 #[.val (.int p1), .val (.int p2), .val (.int p3), .val (.int p4), .val (.int p5), .val (.int (2 : Int32)), .val (.ref b1), .val (.ref b4), .val (.ref b8), .val (.ref b12), .val (.ref b17), .val (.ref b22), .val (.ref b27), .val (.int (1 : Int32))] []))
    refine own_iload X88 hx (hb hby at_131) rfl rfl ?_
    refine own_ifF X88 hx (hb hby at_133) rfl (by decide) ?_
    refine own_aload X88 hx (hb hby at_136) rfl rfl rfl ?_
    refine own_virtual X88 hx hZ (y := (⟨"com/example/ledgerleaf/ledgerleaf/Findings", "isEmpty", "()Z"⟩ : MethodName)) (z := (⟨"com/example/ledgerleaf/ledgerleaf/Findings", "isEmpty", "()Z"⟩ : MethodName)) hown (hw _ (List.mem_of_getElem? (i := 71) rfl)) (hw _ (List.mem_of_getElem? (i := 72) rfl)) (notFace_of_selects (args := #[]) (mvT hZ (hw _ (List.mem_of_getElem? (i := 74) rfl)))) (hw _ (List.mem_of_getElem? (i := 74) rfl)) (hw _ (List.mem_of_getElem? (i := 73) rfl)) (hw _ (List.mem_of_getElem? (i := 32) rfl)) (hw _ (List.mem_of_getElem? (i := 75) rfl)) (by decide) rfl (by decide) (W := 0) (by decide) (by decide) (by decide) [] [] (by rw [hml]; rfl) Ef88 (own_ise l Z a0 hw b27 (1 : Int64) T88.heap n0 Cf88) own_pd10 rfl rfl rfl (hb hby at_138) rfl ?_
    intro v89 T89 L89 X89 hQ89
    obtain ⟨rfl, Nq89, hh89⟩ := hQ89
    have N89 := Fr.app N88 Nq89
    rw [show (if (lcmpW (1 : Int64) (0 : Int64)) = (0 : Int32) then (1 : Int32) else 0) = (0 : Int32) from by decide]
    show own_Ends p e below _ (T89.setTop (mkF m 141 #[.val (.int p1), .val (.int p2), .val (.int p3), .val (.int p4), .val (.int p5), .val (.int (2 : Int32)), .val (.ref b1), .val (.ref b4), .val (.ref b8), .val (.ref b12), .val (.ref b17), .val (.ref b22), .val (.ref b27), .val (.int (1 : Int32))] [(.int (0 : Int32))]))
    refine own_ifF X89 hx (hb hby at_141) rfl (by decide) ?_
    refine own_iconst X89 hx (1 : Int32) (hb hby at_144) (by decide) rfl ?_
    refine own_goto X89 hx (hb hby at_145) (by decide) rfl ?_
    refine own_istore X89 hx #[.val (.int p1), .val (.int p2), .val (.int p3), .val (.int p4), .val (.int p5), .val (.int (2 : Int32)), .val (.ref b1), .val (.ref b4), .val (.ref b8), .val (.ref b12), .val (.ref b17), .val (.ref b22), .val (.ref b27), .val (.int (1 : Int32))] (hb hby at_149) rfl rfl ?_
    refine own_iload X89 hx (hb hby at_151) rfl rfl ?_
    refine own_iconst X89 hx (2 : Int32) (hb hby at_153) (by decide) rfl ?_
    refine own_icmpF X89 hx (hb hby at_154) rfl (by decide) ?_
    refine own_aload X89 hx (hb hby at_157) rfl rfl rfl ?_
    refine own_new X89 hx hZ hown (hw _ (List.mem_of_getElem? (i := 138) rfl)) (hw _ (List.mem_of_getElem? (i := 139) rfl)) (hw _ (List.mem_of_getElem? (i := 140) rfl)) hh89 (hb hby at_159) (by decide) (by decide) rfl ?_
    intro T90 h90 b90 X90 e90 g90 E90 A90 D90
    have f91 := (f72.keep Kq88 (allS g_b27 (allS g_lb all0)))
    have g_b90 : n0 ≤ b90 := Nat.le_trans (own_oz f91) (Nat.le_of_eq g90.symm)
    have Fb90_line : Fld Z h90 b90 "com/example/ledgerleaf/ledgerleaf/Finding" "line" "I" (.int (0 : Int32)) := D90 (Or.inr (hw _ (List.mem_of_getElem? (i := 151) rfl))) (ty := .int) (by decide)
    have Fb90_message : Fld Z h90 b90 "com/example/ledgerleaf/ledgerleaf/Finding" "message" "Ljava/lang/String;" .null := D90 (Or.inr (hw _ (List.mem_of_getElem? (i := 153) rfl))) (ty := (.object "java/lang/String")) (by decide)
    refine own_dup X90 hx (hb hby at_162) rfl rfl ?_
    refine own_iloadN X90 hx (hb hby at_163) rfl rfl ?_
    refine own_aload X90 hx (hb hby at_164) rfl rfl rfl ?_
    refine own_special X90 hx hZ (y := (⟨"com/example/ledgerleaf/ledgerleaf/Finding", "<init>", "(ILjava/lang/String;)V"⟩ : MethodName)) rfl hown (hw _ (List.mem_of_getElem? (i := 141) rfl)) (hw _ (List.mem_of_getElem? (i := 142) rfl)) (hw _ (List.mem_of_getElem? (i := 140) rfl)) (hw _ (List.mem_of_getElem? (i := 143) rfl)) (by decide) e90 (by decide) (W := 2) (by decide) (by decide) (by decide) [(.int p3), (.ref b17)] [(.ref b90), (.ref b27)] (by rw [hml]; rfl) (a := b90) (own_fin l Z a0 hw b90 b17 p3 h90 n0 g_b90 A90 D90) own_pd14 rfl rfl rfl (hb hby at_166) rfl ?_
    intro v92 T92 L92 X92 hQ92
    obtain ⟨rfl, Nq92, Kq92, Ee92, Fm92⟩ := hQ92
    have N92 := Fr.app N89 Nq92
    show own_Ends p e below _ (T92.setTop (mkF m 169 #[.val (.int p1), .val (.int p2), .val (.int p3), .val (.int p4), .val (.int p5), .val (.int (2 : Int32)), .val (.ref b1), .val (.ref b4), .val (.ref b8), .val (.ref b12), .val (.ref b17), .val (.ref b22), .val (.ref b27), .val (.int (1 : Int32))] [(.ref b90), (.ref b27)]))
    have f93 := ((f91.ext E90).keep Kq92 (allS g_b90 all0))
    have f94 := ((Ef88.ext E90).keep Kq92)
    have f95 := ((Bf88.ext E90).keep Kq92 (ninS (Nat.ne_of_lt (Nat.lt_of_lt_of_le Ef88.lt (Nat.le_of_eq g90.symm))) nin0))
    have f96 := ((Rf88.ext E90).keep Kq92 (ninS (Nat.ne_of_lt (Nat.lt_of_lt_of_le Ef88.lt (Nat.le_of_eq g90.symm))) nin0))
    have f97 := ((Nf88.ext E90).keep Kq92 (ninS (Nat.ne_of_lt (Nat.lt_of_lt_of_le Ef88.lt (Nat.le_of_eq g90.symm))) nin0))
    have f98 := ((Sf88.ext E90).keep Kq92 (ninS (Nat.ne_of_lt (Nat.lt_of_lt_of_le Ef88.lt (Nat.le_of_eq g90.symm))) nin0))
    have f99 := ((Cf88.ext E90).keep Kq92 (ninS (Nat.ne_of_lt (Nat.lt_of_lt_of_le Ef88.lt (Nat.le_of_eq g90.symm))) nin0))
    have f100 := ((Lf88.ext E90).keep Kq92 (ninS (Nat.ne_of_lt (Nat.lt_of_lt_of_le Ef88.lt (Nat.le_of_eq g90.symm))) nin0))
    have f101 := (((((((((Es21.ext E22).keep Kq26).ext E27).keep Kq30).ext E69).keep Kq71).keep Kq88).ext E90).keep Kq92)
    have f102 := (((((((((Vs21.ext E22).keep Kq26 (ninS (Nat.ne_of_lt (Nat.lt_of_lt_of_le Es21.lt (Nat.le_of_eq g22.symm))) nin0)).ext E27).keep Kq30 (ninS (Nat.ne_of_lt (Nat.lt_of_lt_of_le ((Es21.ext E22).keep Kq26).lt (Nat.le_of_eq g27.symm))) nin0)).ext E69).keep Kq71 (ninS (Nat.ne_of_lt (Nat.lt_of_lt_of_le ((((Es21.ext E22).keep Kq26).ext E27).keep Kq30).lt (Nat.le_of_eq g69.symm))) nin0)).keep Kq88 (ninS (Nat.ne_of_lt (Nat.lt_of_lt_of_le ((Es21.ext E22).keep Kq26).lt (Nat.le_of_eq g27.symm))) (ninS (Ne.symm (ne_exa Elb ((((Es21.ext E22).keep Kq26).ext E27).keep Kq30) (by decide))) nin0))).ext E90).keep Kq92 (ninS (Nat.ne_of_lt (Nat.lt_of_lt_of_le (((((((Es21.ext E22).keep Kq26).ext E27).keep Kq30).ext E69).keep Kq71).keep Kq88).lt (Nat.le_of_eq g90.symm))) nin0))
    have f103 := (((((((((Cs21.ext E22).keep Kq26 (ninS (Nat.ne_of_lt (Nat.lt_of_lt_of_le Es21.lt (Nat.le_of_eq g22.symm))) nin0)).ext E27).keep Kq30 (ninS (Nat.ne_of_lt (Nat.lt_of_lt_of_le ((Es21.ext E22).keep Kq26).lt (Nat.le_of_eq g27.symm))) nin0)).ext E69).keep Kq71 (ninS (Nat.ne_of_lt (Nat.lt_of_lt_of_le ((((Es21.ext E22).keep Kq26).ext E27).keep Kq30).lt (Nat.le_of_eq g69.symm))) nin0)).keep Kq88 (ninS (Nat.ne_of_lt (Nat.lt_of_lt_of_le ((Es21.ext E22).keep Kq26).lt (Nat.le_of_eq g27.symm))) (ninS (Ne.symm (ne_exa Elb ((((Es21.ext E22).keep Kq26).ext E27).keep Kq30) (by decide))) nin0))).ext E90).keep Kq92 (ninS (Nat.ne_of_lt (Nat.lt_of_lt_of_le (((((((Es21.ext E22).keep Kq26).ext E27).keep Kq30).ext E69).keep Kq71).keep Kq88).lt (Nat.le_of_eq g90.symm))) nin0))
    have f104 := (((((((((Ks21.ext E22).keep Kq26 (ninS (Nat.ne_of_lt (Nat.lt_of_lt_of_le Ks21.lt (Nat.le_of_eq g22.symm))) nin0)).ext E27).keep Kq30 (ninS (Nat.ne_of_lt (Nat.lt_of_lt_of_le ((Ks21.ext E22).keep Kq26 (ninS (Nat.ne_of_lt (Nat.lt_of_lt_of_le Ks21.lt (Nat.le_of_eq g22.symm))) nin0)).lt (Nat.le_of_eq g27.symm))) nin0)).ext E69).keep Kq71 (ninS (Nat.ne_of_lt (Nat.lt_of_lt_of_le ((((Ks21.ext E22).keep Kq26 (ninS (Nat.ne_of_lt (Nat.lt_of_lt_of_le Ks21.lt (Nat.le_of_eq g22.symm))) nin0)).ext E27).keep Kq30 (ninS (Nat.ne_of_lt (Nat.lt_of_lt_of_le ((Ks21.ext E22).keep Kq26 (ninS (Nat.ne_of_lt (Nat.lt_of_lt_of_le Ks21.lt (Nat.le_of_eq g22.symm))) nin0)).lt (Nat.le_of_eq g27.symm))) nin0)).lt (Nat.le_of_eq g69.symm))) nin0)).keep Kq88 (ninS (Nat.ne_of_lt (Nat.lt_of_lt_of_le ((Ks21.ext E22).keep Kq26 (ninS (Nat.ne_of_lt (Nat.lt_of_lt_of_le Ks21.lt (Nat.le_of_eq g22.symm))) nin0)).lt (Nat.le_of_eq g27.symm))) (ninS (Ne.symm (Exa.neArv Elb ((((Ks21.ext E22).keep Kq26 (ninS (Nat.ne_of_lt (Nat.lt_of_lt_of_le Ks21.lt (Nat.le_of_eq g22.symm))) nin0)).ext E27).keep Kq30 (ninS (Nat.ne_of_lt (Nat.lt_of_lt_of_le ((Ks21.ext E22).keep Kq26 (ninS (Nat.ne_of_lt (Nat.lt_of_lt_of_le Ks21.lt (Nat.le_of_eq g22.symm))) nin0)).lt (Nat.le_of_eq g27.symm))) nin0)) (hw _ (List.mem_of_getElem? (i := 38) rfl)))) nin0))).ext E90).keep Kq92 (ninS (Nat.ne_of_lt (Nat.lt_of_lt_of_le (((((((Ks21.ext E22).keep Kq26 (ninS (Nat.ne_of_lt (Nat.lt_of_lt_of_le Ks21.lt (Nat.le_of_eq g22.symm))) nin0)).ext E27).keep Kq30 (ninS (Nat.ne_of_lt (Nat.lt_of_lt_of_le ((Ks21.ext E22).keep Kq26 (ninS (Nat.ne_of_lt (Nat.lt_of_lt_of_le Ks21.lt (Nat.le_of_eq g22.symm))) nin0)).lt (Nat.le_of_eq g27.symm))) nin0)).ext E69).keep Kq71 (ninS (Nat.ne_of_lt (Nat.lt_of_lt_of_le ((((Ks21.ext E22).keep Kq26 (ninS (Nat.ne_of_lt (Nat.lt_of_lt_of_le Ks21.lt (Nat.le_of_eq g22.symm))) nin0)).ext E27).keep Kq30 (ninS (Nat.ne_of_lt (Nat.lt_of_lt_of_le ((Ks21.ext E22).keep Kq26 (ninS (Nat.ne_of_lt (Nat.lt_of_lt_of_le Ks21.lt (Nat.le_of_eq g22.symm))) nin0)).lt (Nat.le_of_eq g27.symm))) nin0)).lt (Nat.le_of_eq g69.symm))) nin0)).keep Kq88 (ninS (Nat.ne_of_lt (Nat.lt_of_lt_of_le ((Ks21.ext E22).keep Kq26 (ninS (Nat.ne_of_lt (Nat.lt_of_lt_of_le Ks21.lt (Nat.le_of_eq g22.symm))) nin0)).lt (Nat.le_of_eq g27.symm))) (ninS (Ne.symm (Exa.neArv Elb ((((Ks21.ext E22).keep Kq26 (ninS (Nat.ne_of_lt (Nat.lt_of_lt_of_le Ks21.lt (Nat.le_of_eq g22.symm))) nin0)).ext E27).keep Kq30 (ninS (Nat.ne_of_lt (Nat.lt_of_lt_of_le ((Ks21.ext E22).keep Kq26 (ninS (Nat.ne_of_lt (Nat.lt_of_lt_of_le Ks21.lt (Nat.le_of_eq g22.symm))) nin0)).lt (Nat.le_of_eq g27.symm))) nin0)) (hw _ (List.mem_of_getElem? (i := 38) rfl)))) nin0))).lt (Nat.le_of_eq g90.symm))) nin0))
    have f105 := ((El88.ext E90).keep Kq92)
    have f106 := ((Ml88.ext E90).keep Kq92 (ninS (Nat.ne_of_lt (Nat.lt_of_lt_of_le El88.lt (Nat.le_of_eq g90.symm))) nin0))
    have f107 := ((Dl88.ext E90).keep Kq92 (ninS (Nat.ne_of_lt (Nat.lt_of_lt_of_le El88.lt (Nat.le_of_eq g90.symm))) nin0))
    have f108 := ((Sl88.ext E90).keep Kq92 (ninS (Nat.ne_of_lt (Nat.lt_of_lt_of_le El88.lt (Nat.le_of_eq g90.symm))) nin0))
    have f109 := ((V88.ext E90).keep Kq92 (ninS (Nat.ne_of_lt (Nat.lt_of_lt_of_le V88.lt (Nat.le_of_eq g90.symm))) nin0))
    refine own_virtual X92 hx hZ (y := (⟨"com/example/ledgerleaf/ledgerleaf/Findings", "add", "(Lcom/example/ledgerleaf/ledgerleaf/Finding;)V"⟩ : MethodName)) (z := (⟨"com/example/ledgerleaf/ledgerleaf/Findings", "add", "(Lcom/example/ledgerleaf/ledgerleaf/Finding;)V"⟩ : MethodName)) hown (hw _ (List.mem_of_getElem? (i := 154) rfl)) (hw _ (List.mem_of_getElem? (i := 155) rfl)) (notFace_of_selects (args := #[]) (mvT hZ (hw _ (List.mem_of_getElem? (i := 157) rfl)))) (hw _ (List.mem_of_getElem? (i := 157) rfl)) (hw _ (List.mem_of_getElem? (i := 156) rfl)) (hw _ (List.mem_of_getElem? (i := 32) rfl)) (hw _ (List.mem_of_getElem? (i := 158) rfl)) (by decide) rfl (by decide) (W := 0) (by decide) (by decide) (by decide) [(.ref b90)] [] (by rw [hml]; rfl) f94 (own_fadd_1 l Z a0 hw b27 b90 lb lr b17 de b88 b69 kd k88 ((0 : Int32) + (1 : Int32)) c6 zc T92.heap n0 f93 SC hzc SD VD g_b27 g_lb g_b88 ⟨f94, f95, f96, f97, f98, f99, f100⟩ Ee92 Fm92 ⟨_, _, _, _, _, f101, f102, f103, f104, co21, hb21, (Nat.le_of_ble_eq_true rfl)⟩ ⟨f105, f106, f107, f108⟩ f109 Ov88) own_pd15 rfl rfl rfl (hb hby at_169) rfl ?_
    intro v110 T110 L110 X110 hQ110
    obtain ⟨rfl, Nq110, Kq110, ⟨Ef110, Bf110, Rf110, Nf110, Sf110, Cf110, Lf110⟩, Al110, V110⟩ := hQ110
    have N110 := Fr.app N92 Nq110
    obtain ⟨El110, Ml110, Dl110, Sl110⟩ := Al110
    show own_Ends p e below _ (T110.setTop (mkF m 172 #[.val (.int p1), .val (.int p2), .val (.int p3), .val (.int p4), .val (.int p5), .val (.int (2 : Int32)), .val (.ref b1), .val (.ref b4), .val (.ref b8), .val (.ref b12), .val (.ref b17), .val (.ref b22), .val (.ref b27), .val (.int (1 : Int32))] []))
    refine own_iload X110 hx (hb hby at_172) rfl rfl ?_
    refine own_ifF X110 hx (hb hby at_174) rfl (by decide) ?_
    refine own_aload X110 hx (hb hby at_177) rfl rfl rfl ?_
    refine own_virtual X110 hx hZ (y := (⟨"com/example/ledgerleaf/ledgerleaf/Findings", "isEmpty", "()Z"⟩ : MethodName)) (z := (⟨"com/example/ledgerleaf/ledgerleaf/Findings", "isEmpty", "()Z"⟩ : MethodName)) hown (hw _ (List.mem_of_getElem? (i := 71) rfl)) (hw _ (List.mem_of_getElem? (i := 72) rfl)) (notFace_of_selects (args := #[]) (mvT hZ (hw _ (List.mem_of_getElem? (i := 74) rfl)))) (hw _ (List.mem_of_getElem? (i := 74) rfl)) (hw _ (List.mem_of_getElem? (i := 73) rfl)) (hw _ (List.mem_of_getElem? (i := 32) rfl)) (hw _ (List.mem_of_getElem? (i := 75) rfl)) (by decide) rfl (by decide) (W := 0) (by decide) (by decide) (by decide) [] [] (by rw [hml]; rfl) Ef110 (own_ise l Z a0 hw b27 (2 : Int64) T110.heap n0 Cf110) own_pd10 rfl rfl rfl (hb hby at_179) rfl ?_
    intro v111 T111 L111 X111 hQ111
    obtain ⟨rfl, Nq111, hh111⟩ := hQ111
    have N111 := Fr.app N110 Nq111
    rw [show (if (lcmpW (2 : Int64) (0 : Int64)) = (0 : Int32) then (1 : Int32) else 0) = (0 : Int32) from by decide]
    show own_Ends p e below _ (T111.setTop (mkF m 182 #[.val (.int p1), .val (.int p2), .val (.int p3), .val (.int p4), .val (.int p5), .val (.int (2 : Int32)), .val (.ref b1), .val (.ref b4), .val (.ref b8), .val (.ref b12), .val (.ref b17), .val (.ref b22), .val (.ref b27), .val (.int (1 : Int32))] [(.int (0 : Int32))]))
    refine own_ifF X111 hx (hb hby at_182) rfl (by decide) ?_
    refine own_iconst X111 hx (1 : Int32) (hb hby at_185) (by decide) rfl ?_
    refine own_goto X111 hx (hb hby at_186) (by decide) rfl ?_
    refine own_istore X111 hx #[.val (.int p1), .val (.int p2), .val (.int p3), .val (.int p4), .val (.int p5), .val (.int (2 : Int32)), .val (.ref b1), .val (.ref b4), .val (.ref b8), .val (.ref b12), .val (.ref b17), .val (.ref b22), .val (.ref b27), .val (.int (1 : Int32))] (hb hby at_190) rfl rfl ?_
    refine own_iload X111 hx (hb hby at_192) rfl rfl ?_
    refine own_iconst X111 hx (3 : Int32) (hb hby at_194) (by decide) rfl ?_
    refine own_icmpT X111 hx (hb hby at_195) (by decide) rfl (by decide) ?_
    refine own_iload X111 hx (hb hby at_233) rfl rfl ?_
    refine own_ifF X111 hx (hb hby at_235) rfl (by decide) ?_
    refine own_aload X111 hx (hb hby at_238) rfl rfl rfl ?_
    refine own_virtual X111 hx hZ (y := (⟨"com/example/ledgerleaf/ledgerleaf/Findings", "isEmpty", "()Z"⟩ : MethodName)) (z := (⟨"com/example/ledgerleaf/ledgerleaf/Findings", "isEmpty", "()Z"⟩ : MethodName)) hown (hw _ (List.mem_of_getElem? (i := 71) rfl)) (hw _ (List.mem_of_getElem? (i := 72) rfl)) (notFace_of_selects (args := #[]) (mvT hZ (hw _ (List.mem_of_getElem? (i := 74) rfl)))) (hw _ (List.mem_of_getElem? (i := 74) rfl)) (hw _ (List.mem_of_getElem? (i := 73) rfl)) (hw _ (List.mem_of_getElem? (i := 32) rfl)) (hw _ (List.mem_of_getElem? (i := 75) rfl)) (by decide) hh111 (by decide) (W := 0) (by decide) (by decide) (by decide) [] [] (by rw [hml]; rfl) Ef110 (own_ise l Z a0 hw b27 (2 : Int64) T110.heap n0 Cf110) own_pd10 rfl rfl rfl (hb hby at_240) rfl ?_
    intro v112 T112 L112 X112 hQ112
    obtain ⟨rfl, Nq112, hh112⟩ := hQ112
    have N112 := Fr.app N111 Nq112
    rw [show (if (lcmpW (2 : Int64) (0 : Int64)) = (0 : Int32) then (1 : Int32) else 0) = (0 : Int32) from by decide]
    show own_Ends p e below _ (T112.setTop (mkF m 243 #[.val (.int p1), .val (.int p2), .val (.int p3), .val (.int p4), .val (.int p5), .val (.int (2 : Int32)), .val (.ref b1), .val (.ref b4), .val (.ref b8), .val (.ref b12), .val (.ref b17), .val (.ref b22), .val (.ref b27), .val (.int (1 : Int32))] [(.int (0 : Int32))]))
    refine own_iload X112 hx (hb hby at_243) rfl rfl ?_
    refine own_ifT X112 hx (hb hby at_245) (by decide) rfl (by decide) ?_
    refine own_iconst X112 hx (0 : Int32) (hb hby at_252) (by decide) rfl ?_
    refine own_icmpF X112 hx (hb hby at_253) rfl (by decide) ?_
    refine own_iconst X112 hx (1 : Int32) (hb hby at_256) (by decide) rfl ?_
    refine own_goto X112 hx (hb hby at_257) (by decide) rfl ?_
    refine own_istore X112 hx #[.val (.int p1), .val (.int p2), .val (.int p3), .val (.int p4), .val (.int p5), .val (.int (2 : Int32)), .val (.ref b1), .val (.ref b4), .val (.ref b8), .val (.ref b12), .val (.ref b17), .val (.ref b22), .val (.ref b27), .val (.int (1 : Int32))] (hb hby at_261) rfl rfl ?_
    refine own_iload X112 hx (hb hby at_263) rfl rfl ?_
    refine own_ifF X112 hx (hb hby at_265) rfl (by decide) ?_
    refine own_aload X112 hx (hb hby at_268) rfl rfl rfl ?_
    refine own_virtual X112 hx hZ (y := (⟨"com/example/ledgerleaf/ledgerleaf/Findings", "isEmpty", "()Z"⟩ : MethodName)) (z := (⟨"com/example/ledgerleaf/ledgerleaf/Findings", "isEmpty", "()Z"⟩ : MethodName)) hown (hw _ (List.mem_of_getElem? (i := 71) rfl)) (hw _ (List.mem_of_getElem? (i := 72) rfl)) (notFace_of_selects (args := #[]) (mvT hZ (hw _ (List.mem_of_getElem? (i := 74) rfl)))) (hw _ (List.mem_of_getElem? (i := 74) rfl)) (hw _ (List.mem_of_getElem? (i := 73) rfl)) (hw _ (List.mem_of_getElem? (i := 32) rfl)) (hw _ (List.mem_of_getElem? (i := 75) rfl)) (by decide) hh112 (by decide) (W := 0) (by decide) (by decide) (by decide) [] [] (by rw [hml]; rfl) Ef110 (own_ise l Z a0 hw b27 (2 : Int64) T110.heap n0 Cf110) own_pd10 rfl rfl rfl (hb hby at_270) rfl ?_
    intro v113 T113 L113 X113 hQ113
    obtain ⟨rfl, Nq113, hh113⟩ := hQ113
    have N113 := Fr.app N112 Nq113
    rw [show (if (lcmpW (2 : Int64) (0 : Int64)) = (0 : Int32) then (1 : Int32) else 0) = (0 : Int32) from by decide]
    show own_Ends p e below _ (T113.setTop (mkF m 273 #[.val (.int p1), .val (.int p2), .val (.int p3), .val (.int p4), .val (.int p5), .val (.int (2 : Int32)), .val (.ref b1), .val (.ref b4), .val (.ref b8), .val (.ref b12), .val (.ref b17), .val (.ref b22), .val (.ref b27), .val (.int (1 : Int32))] [(.int (0 : Int32))]))
    refine own_aload X113 hx (hb hby at_273) rfl rfl rfl ?_
    refine own_virtual X113 hx hZ (y := (⟨"com/example/ledgerleaf/ledgerleaf/Findings", "size", "()J"⟩ : MethodName)) (z := (⟨"com/example/ledgerleaf/ledgerleaf/Findings", "size", "()J"⟩ : MethodName)) hown (hw _ (List.mem_of_getElem? (i := 78) rfl)) (hw _ (List.mem_of_getElem? (i := 79) rfl)) (notFace_of_selects (args := #[]) (mvT hZ (hw _ (List.mem_of_getElem? (i := 81) rfl)))) (hw _ (List.mem_of_getElem? (i := 81) rfl)) (hw _ (List.mem_of_getElem? (i := 80) rfl)) (hw _ (List.mem_of_getElem? (i := 32) rfl)) (hw _ (List.mem_of_getElem? (i := 82) rfl)) (by decide) hh113 (by decide) (W := 1) (by decide) (by decide) (by decide) [] [(.int (0 : Int32))] (by rw [hml]; rfl) Ef110 (own_fsz l Z a0 hw b27 (2 : Int64) T110.heap n0 Cf110) own_pd13 rfl rfl rfl (hb hby at_275) rfl ?_
    intro v114 T114 L114 X114 hQ114
    obtain ⟨rfl, Nq114, hh114⟩ := hQ114
    have N114 := Fr.app N113 Nq114
    show own_Ends p e below _ (T114.setTop (mkF m 278 #[.val (.int p1), .val (.int p2), .val (.int p3), .val (.int p4), .val (.int p5), .val (.int (2 : Int32)), .val (.ref b1), .val (.ref b4), .val (.ref b8), .val (.ref b12), .val (.ref b17), .val (.ref b22), .val (.ref b27), .val (.int (1 : Int32))] [(.long (2 : Int64)), (.int (0 : Int32))]))
    refine own_lconst X114 hx (0 : Int64) (hb hby at_278) (by decide) rfl ?_
    refine own_lcmp X114 hx (hb hby at_279) rfl ?_
    rw [show (lcmpW (2 : Int64) (0 : Int64)) = (1 : Int32) from by decide]
    refine own_ifT X114 hx (hb hby at_280) (by decide) rfl (by decide) ?_
    refine own_iconst X114 hx (0 : Int32) (hb hby at_287) (by decide) rfl ?_
    refine own_icmpF X114 hx (hb hby at_288) rfl (by decide) ?_
    refine own_iconst X114 hx (1 : Int32) (hb hby at_291) (by decide) rfl ?_
    refine own_goto X114 hx (hb hby at_292) (by decide) rfl ?_
    refine own_istore X114 hx #[.val (.int p1), .val (.int p2), .val (.int p3), .val (.int p4), .val (.int p5), .val (.int (2 : Int32)), .val (.ref b1), .val (.ref b4), .val (.ref b8), .val (.ref b12), .val (.ref b17), .val (.ref b22), .val (.ref b27), .val (.int (1 : Int32))] (hb hby at_296) rfl rfl ?_
    refine own_aload X114 hx (hb hby at_298) rfl rfl rfl ?_
    have f115 := (f93.keep Kq110 (allS g_b27 (allS g_lb (allS g_b88 all0))))
    have f116 := ((((((Elr.ext E69).keep Kq71).keep Kq88).ext E90).keep Kq92).keep Kq110)
    have f117 := ((((((Mlr.ext E69).keep Kq71 (ninS (Nat.ne_of_lt (Nat.lt_of_lt_of_le Elr.lt (Nat.le_of_eq g69.symm))) nin0)).keep Kq88 (ninS (ne_exa Elr Ef0 (by decide)) (ninS (Ne.symm hne) nin0))).ext E90).keep Kq92 (ninS (Nat.ne_of_lt (Nat.lt_of_lt_of_le (((Elr.ext E69).keep Kq71).keep Kq88).lt (Nat.le_of_eq g90.symm))) nin0)).keep Kq110 (ninS (ne_exa Elr Ef0 (by decide)) (ninS (Ne.symm hne) (ninS (Exa.neArv (((Elr.ext E69).keep Kq71).keep Kq88) V88 (hw _ (List.mem_of_getElem? (i := 38) rfl))) nin0))))
    have f118 := ((((((Dlr.ext E69).keep Kq71 (ninS (Nat.ne_of_lt (Nat.lt_of_lt_of_le Elr.lt (Nat.le_of_eq g69.symm))) nin0)).keep Kq88 (ninS (ne_exa Elr Ef0 (by decide)) (ninS (Ne.symm hne) nin0))).ext E90).keep Kq92 (ninS (Nat.ne_of_lt (Nat.lt_of_lt_of_le (((Elr.ext E69).keep Kq71).keep Kq88).lt (Nat.le_of_eq g90.symm))) nin0)).keep Kq110 (ninS (ne_exa Elr Ef0 (by decide)) (ninS (Ne.symm hne) (ninS (Exa.neArv (((Elr.ext E69).keep Kq71).keep Kq88) V88 (hw _ (List.mem_of_getElem? (i := 38) rfl))) nin0))))
    have f119 := ((((((Slr.ext E69).keep Kq71 (ninS (Nat.ne_of_lt (Nat.lt_of_lt_of_le Elr.lt (Nat.le_of_eq g69.symm))) nin0)).keep Kq88 (ninS (ne_exa Elr Ef0 (by decide)) (ninS (Ne.symm hne) nin0))).ext E90).keep Kq92 (ninS (Nat.ne_of_lt (Nat.lt_of_lt_of_le (((Elr.ext E69).keep Kq71).keep Kq88).lt (Nat.le_of_eq g90.symm))) nin0)).keep Kq110 (ninS (ne_exa Elr Ef0 (by decide)) (ninS (Ne.symm hne) (ninS (Exa.neArv (((Elr.ext E69).keep Kq71).keep Kq88) V88 (hw _ (List.mem_of_getElem? (i := 38) rfl))) nin0))))
    refine own_virtual X114 hx hZ (y := (⟨"com/example/ledgerleaf/ledgerleaf/Findings", "close", "()V"⟩ : MethodName)) (z := (⟨"com/example/ledgerleaf/ledgerleaf/Findings", "close", "()V"⟩ : MethodName)) hown (hw _ (List.mem_of_getElem? (i := 83) rfl)) (hw _ (List.mem_of_getElem? (i := 84) rfl)) (notFace_of_selects (args := #[]) (mvT hZ (hw _ (List.mem_of_getElem? (i := 86) rfl)))) (hw _ (List.mem_of_getElem? (i := 86) rfl)) (hw _ (List.mem_of_getElem? (i := 85) rfl)) (hw _ (List.mem_of_getElem? (i := 32) rfl)) (hw _ (List.mem_of_getElem? (i := 87) rfl)) (by decide) hh114 (by decide) (W := 0) (by decide) (by decide) (by decide) [] [] (by rw [hml]; rfl) Ef110 (own_close_2 l Z a0 hw b27 lb lr de b88 b69 b90 kd k88 (((0 : Int32) + (1 : Int32)) + (1 : Int32)) (0 : Int32) T110.heap n0 f115 SD VD g_b27 g_lb g_lr g_b88 hne ⟨Ef110, Bf110, Rf110, Nf110, Sf110, Cf110, Lf110⟩ ⟨El110, Ml110, Dl110, Sl110⟩ ⟨f116, f117, f118, f119⟩ V110) own_pd0 rfl rfl rfl (hb hby at_300) rfl ?_
    intro v120 T120 L120 X120 hQ120
    obtain ⟨rfl, Nq120, Kq120, Ef120, Cf120⟩ := hQ120
    have N120 := Fr.app N114 Nq120
    show own_Ends p e below _ (T120.setTop (mkF m 303 #[.val (.int p1), .val (.int p2), .val (.int p3), .val (.int p4), .val (.int p5), .val (.int (2 : Int32)), .val (.ref b1), .val (.ref b4), .val (.ref b8), .val (.ref b12), .val (.ref b17), .val (.ref b22), .val (.ref b27), .val (.int (1 : Int32))] []))
    refine own_iload X120 hx (hb hby at_303) rfl rfl ?_
    refine own_ifF X120 hx (hb hby at_305) rfl (by decide) ?_
    refine own_aload X120 hx (hb hby at_308) rfl rfl rfl ?_
    refine own_virtual X120 hx hZ (y := (⟨"com/example/ledgerleaf/ledgerleaf/Findings", "isEmpty", "()Z"⟩ : MethodName)) (z := (⟨"com/example/ledgerleaf/ledgerleaf/Findings", "isEmpty", "()Z"⟩ : MethodName)) hown (hw _ (List.mem_of_getElem? (i := 71) rfl)) (hw _ (List.mem_of_getElem? (i := 72) rfl)) (notFace_of_selects (args := #[]) (mvT hZ (hw _ (List.mem_of_getElem? (i := 74) rfl)))) (hw _ (List.mem_of_getElem? (i := 74) rfl)) (hw _ (List.mem_of_getElem? (i := 73) rfl)) (hw _ (List.mem_of_getElem? (i := 32) rfl)) (hw _ (List.mem_of_getElem? (i := 75) rfl)) (by decide) rfl (by decide) (W := 0) (by decide) (by decide) (by decide) [] [] (by rw [hml]; rfl) Ef120 (own_ise l Z a0 hw b27 (0 : Int64) T120.heap n0 Cf120) own_pd10 rfl rfl rfl (hb hby at_310) rfl ?_
    intro v121 T121 L121 X121 hQ121
    obtain ⟨rfl, Nq121, hh121⟩ := hQ121
    have N121 := Fr.app N120 Nq121
    rw [show (if (lcmpW (0 : Int64) (0 : Int64)) = (0 : Int32) then (1 : Int32) else 0) = (1 : Int32) from by decide]
    show own_Ends p e below _ (T121.setTop (mkF m 313 #[.val (.int p1), .val (.int p2), .val (.int p3), .val (.int p4), .val (.int p5), .val (.int (2 : Int32)), .val (.ref b1), .val (.ref b4), .val (.ref b8), .val (.ref b12), .val (.ref b17), .val (.ref b22), .val (.ref b27), .val (.int (1 : Int32))] [(.int (1 : Int32))]))
    refine own_ifF X121 hx (hb hby at_313) rfl (by decide) ?_
    refine own_iconst X121 hx (1 : Int32) (hb hby at_316) (by decide) rfl ?_
    refine own_goto X121 hx (hb hby at_317) (by decide) rfl ?_
    refine own_istore X121 hx #[.val (.int p1), .val (.int p2), .val (.int p3), .val (.int p4), .val (.int p5), .val (.int (2 : Int32)), .val (.ref b1), .val (.ref b4), .val (.ref b8), .val (.ref b12), .val (.ref b17), .val (.ref b22), .val (.ref b27), .val (.int (1 : Int32))] (hb hby at_321) rfl rfl ?_
    refine own_iload X121 hx (hb hby at_323) rfl rfl ?_
    exact own_retN X121 hx hlocks hret (by simp) (hb hby at_325) (by decide) (by decide) (by decide) ⟨rfl, N121⟩
  · refine own_iload X31 hx (hb hby at_110) rfl rfl ?_
    refine own_iconst X31 hx (1 : Int32) (hb hby at_112) (by decide) rfl ?_
    refine own_icmpF X31 hx (hb hby at_113) rfl (by decide) ?_
    refine own_aload X31 hx (hb hby at_116) rfl rfl rfl ?_
    refine own_new X31 hx hZ hown (hw _ (List.mem_of_getElem? (i := 138) rfl)) (hw _ (List.mem_of_getElem? (i := 139) rfl)) (hw _ (List.mem_of_getElem? (i := 140) rfl)) hh31 (hb hby at_118) (by decide) (by decide) rfl ?_
    intro T122 h122 b122 X122 e122 g122 E122 A122 D122
    have f123 := (f29.keep Kq30 (allS g_b27 all0))
    have g_b122 : n0 ≤ b122 := Nat.le_trans (own_oz f123) (Nat.le_of_eq g122.symm)
    have Fb122_line : Fld Z h122 b122 "com/example/ledgerleaf/ledgerleaf/Finding" "line" "I" (.int (0 : Int32)) := D122 (Or.inr (hw _ (List.mem_of_getElem? (i := 151) rfl))) (ty := .int) (by decide)
    have Fb122_message : Fld Z h122 b122 "com/example/ledgerleaf/ledgerleaf/Finding" "message" "Ljava/lang/String;" .null := D122 (Or.inr (hw _ (List.mem_of_getElem? (i := 153) rfl))) (ty := (.object "java/lang/String")) (by decide)
    refine own_dup X122 hx (hb hby at_121) rfl rfl ?_
    refine own_iloadN X122 hx (hb hby at_122) rfl rfl ?_
    refine own_aload X122 hx (hb hby at_123) rfl rfl rfl ?_
    refine own_special X122 hx hZ (y := (⟨"com/example/ledgerleaf/ledgerleaf/Finding", "<init>", "(ILjava/lang/String;)V"⟩ : MethodName)) rfl hown (hw _ (List.mem_of_getElem? (i := 141) rfl)) (hw _ (List.mem_of_getElem? (i := 142) rfl)) (hw _ (List.mem_of_getElem? (i := 140) rfl)) (hw _ (List.mem_of_getElem? (i := 143) rfl)) (by decide) e122 (by decide) (W := 2) (by decide) (by decide) (by decide) [(.int p2), (.ref b12)] [(.ref b122), (.ref b27)] (by rw [hml]; rfl) (a := b122) (own_fin l Z a0 hw b122 b12 p2 h122 n0 g_b122 A122 D122) own_pd14 rfl rfl rfl (hb hby at_125) rfl ?_
    intro v124 T124 L124 X124 hQ124
    obtain ⟨rfl, Nq124, Kq124, Ee124, Fm124⟩ := hQ124
    have N124 := Fr.app N31 Nq124
    show own_Ends p e below _ (T124.setTop (mkF m 128 #[.val (.int p1), .val (.int p2), .val (.int p3), .val (.int p4), .val (.int p5), .val (.int (3 : Int32)), .val (.ref b1), .val (.ref b4), .val (.ref b8), .val (.ref b12), .val (.ref b17), .val (.ref b22), .val (.ref b27), .val (.int (1 : Int32))] [(.ref b122), (.ref b27)]))
    have f125 := ((f123.ext E122).keep Kq124 (allS g_b122 all0))
    have f126 := ((Ef0.ext E122).keep Kq124)
    have f127 := ((Bf0.ext E122).keep Kq124 (ninS (Nat.ne_of_lt (Nat.lt_of_lt_of_le Ef0.lt (Nat.le_of_eq g122.symm))) nin0))
    have f128 := ((Rf0.ext E122).keep Kq124 (ninS (Nat.ne_of_lt (Nat.lt_of_lt_of_le Ef0.lt (Nat.le_of_eq g122.symm))) nin0))
    have f129 := ((Nf0.ext E122).keep Kq124 (ninS (Nat.ne_of_lt (Nat.lt_of_lt_of_le Ef0.lt (Nat.le_of_eq g122.symm))) nin0))
    have f130 := ((Sf0.ext E122).keep Kq124 (ninS (Nat.ne_of_lt (Nat.lt_of_lt_of_le Ef0.lt (Nat.le_of_eq g122.symm))) nin0))
    have f131 := ((Cf0.ext E122).keep Kq124 (ninS (Nat.ne_of_lt (Nat.lt_of_lt_of_le Ef0.lt (Nat.le_of_eq g122.symm))) nin0))
    have f132 := ((Lf0.ext E122).keep Kq124 (ninS (Nat.ne_of_lt (Nat.lt_of_lt_of_le Ef0.lt (Nat.le_of_eq g122.symm))) nin0))
    have f133 := ((((((((Es16.ext E17).keep Kq21).ext E22).keep Kq26).ext E27).keep Kq30).ext E122).keep Kq124)
    have f134 := ((((((((Vs16.ext E17).keep Kq21 (ninS (Nat.ne_of_lt (Nat.lt_of_lt_of_le Es16.lt (Nat.le_of_eq g17.symm))) nin0)).ext E22).keep Kq26 (ninS (Nat.ne_of_lt (Nat.lt_of_lt_of_le ((Es16.ext E17).keep Kq21).lt (Nat.le_of_eq g22.symm))) nin0)).ext E27).keep Kq30 (ninS (Nat.ne_of_lt (Nat.lt_of_lt_of_le ((((Es16.ext E17).keep Kq21).ext E22).keep Kq26).lt (Nat.le_of_eq g27.symm))) nin0)).ext E122).keep Kq124 (ninS (Nat.ne_of_lt (Nat.lt_of_lt_of_le ((((((Es16.ext E17).keep Kq21).ext E22).keep Kq26).ext E27).keep Kq30).lt (Nat.le_of_eq g122.symm))) nin0))
    have f135 := ((((((((Cs16.ext E17).keep Kq21 (ninS (Nat.ne_of_lt (Nat.lt_of_lt_of_le Es16.lt (Nat.le_of_eq g17.symm))) nin0)).ext E22).keep Kq26 (ninS (Nat.ne_of_lt (Nat.lt_of_lt_of_le ((Es16.ext E17).keep Kq21).lt (Nat.le_of_eq g22.symm))) nin0)).ext E27).keep Kq30 (ninS (Nat.ne_of_lt (Nat.lt_of_lt_of_le ((((Es16.ext E17).keep Kq21).ext E22).keep Kq26).lt (Nat.le_of_eq g27.symm))) nin0)).ext E122).keep Kq124 (ninS (Nat.ne_of_lt (Nat.lt_of_lt_of_le ((((((Es16.ext E17).keep Kq21).ext E22).keep Kq26).ext E27).keep Kq30).lt (Nat.le_of_eq g122.symm))) nin0))
    have f136 := ((((((((Ks16.ext E17).keep Kq21 (ninS (Nat.ne_of_lt (Nat.lt_of_lt_of_le Ks16.lt (Nat.le_of_eq g17.symm))) nin0)).ext E22).keep Kq26 (ninS (Nat.ne_of_lt (Nat.lt_of_lt_of_le ((Ks16.ext E17).keep Kq21 (ninS (Nat.ne_of_lt (Nat.lt_of_lt_of_le Ks16.lt (Nat.le_of_eq g17.symm))) nin0)).lt (Nat.le_of_eq g22.symm))) nin0)).ext E27).keep Kq30 (ninS (Nat.ne_of_lt (Nat.lt_of_lt_of_le ((((Ks16.ext E17).keep Kq21 (ninS (Nat.ne_of_lt (Nat.lt_of_lt_of_le Ks16.lt (Nat.le_of_eq g17.symm))) nin0)).ext E22).keep Kq26 (ninS (Nat.ne_of_lt (Nat.lt_of_lt_of_le ((Ks16.ext E17).keep Kq21 (ninS (Nat.ne_of_lt (Nat.lt_of_lt_of_le Ks16.lt (Nat.le_of_eq g17.symm))) nin0)).lt (Nat.le_of_eq g22.symm))) nin0)).lt (Nat.le_of_eq g27.symm))) nin0)).ext E122).keep Kq124 (ninS (Nat.ne_of_lt (Nat.lt_of_lt_of_le ((((((Ks16.ext E17).keep Kq21 (ninS (Nat.ne_of_lt (Nat.lt_of_lt_of_le Ks16.lt (Nat.le_of_eq g17.symm))) nin0)).ext E22).keep Kq26 (ninS (Nat.ne_of_lt (Nat.lt_of_lt_of_le ((Ks16.ext E17).keep Kq21 (ninS (Nat.ne_of_lt (Nat.lt_of_lt_of_le Ks16.lt (Nat.le_of_eq g17.symm))) nin0)).lt (Nat.le_of_eq g22.symm))) nin0)).ext E27).keep Kq30 (ninS (Nat.ne_of_lt (Nat.lt_of_lt_of_le ((((Ks16.ext E17).keep Kq21 (ninS (Nat.ne_of_lt (Nat.lt_of_lt_of_le Ks16.lt (Nat.le_of_eq g17.symm))) nin0)).ext E22).keep Kq26 (ninS (Nat.ne_of_lt (Nat.lt_of_lt_of_le ((Ks16.ext E17).keep Kq21 (ninS (Nat.ne_of_lt (Nat.lt_of_lt_of_le Ks16.lt (Nat.le_of_eq g17.symm))) nin0)).lt (Nat.le_of_eq g22.symm))) nin0)).lt (Nat.le_of_eq g27.symm))) nin0)).lt (Nat.le_of_eq g122.symm))) nin0))
    have f137 := ((Elb.ext E122).keep Kq124)
    have f138 := ((Mlb.ext E122).keep Kq124 (ninS (Nat.ne_of_lt (Nat.lt_of_lt_of_le Elb.lt (Nat.le_of_eq g122.symm))) nin0))
    have f139 := ((Dlb.ext E122).keep Kq124 (ninS (Nat.ne_of_lt (Nat.lt_of_lt_of_le Elb.lt (Nat.le_of_eq g122.symm))) nin0))
    have f140 := ((Slb.ext E122).keep Kq124 (ninS (Nat.ne_of_lt (Nat.lt_of_lt_of_le Elb.lt (Nat.le_of_eq g122.symm))) nin0))
    refine own_virtual X124 hx hZ (y := (⟨"com/example/ledgerleaf/ledgerleaf/Findings", "add", "(Lcom/example/ledgerleaf/ledgerleaf/Finding;)V"⟩ : MethodName)) (z := (⟨"com/example/ledgerleaf/ledgerleaf/Findings", "add", "(Lcom/example/ledgerleaf/ledgerleaf/Finding;)V"⟩ : MethodName)) hown (hw _ (List.mem_of_getElem? (i := 154) rfl)) (hw _ (List.mem_of_getElem? (i := 155) rfl)) (notFace_of_selects (args := #[]) (mvT hZ (hw _ (List.mem_of_getElem? (i := 157) rfl)))) (hw _ (List.mem_of_getElem? (i := 157) rfl)) (hw _ (List.mem_of_getElem? (i := 156) rfl)) (hw _ (List.mem_of_getElem? (i := 32) rfl)) (hw _ (List.mem_of_getElem? (i := 158) rfl)) (by decide) rfl (by decide) (W := 0) (by decide) (by decide) (by decide) [(.ref b122)] [] (by rw [hml]; rfl) f126 (own_fadd_0 l Z a0 hw b27 b122 lb lr b12 de  kd  (0 : Int32) c2 zc T124.heap n0 f125 SC hzc SD VD g_b27 g_lb ⟨f126, f127, f128, f129, f130, f131, f132⟩ Ee124 Fm124 ⟨_, _, _, _, _, f133, f134, f135, f136, co16, hb16, (Nat.le_of_ble_eq_true rfl)⟩ ⟨f137, f138, f139, f140⟩) own_pd15 rfl rfl rfl (hb hby at_128) rfl ?_
    intro v141 T141 L141 X141 hQ141
    obtain ⟨rfl, Nq141, Kq141, b141, k141, g_b141, sz_b141, ⟨Ef141, Bf141, Rf141, Nf141, Sf141, Cf141, Lf141⟩, Al141, V141, Ov141⟩ := hQ141
    have N141 := Fr.app N124 Nq141
    obtain ⟨El141, Ml141, Dl141, Sl141⟩ := Al141
    show own_Ends p e below _ (T141.setTop (mkF m 131 #[.val (.int p1), .val (.int p2), .val (.int p3), .val (.int p4), .val (.int p5), .val (.int (3 : Int32)), .val (.ref b1), .val (.ref b4), .val (.ref b8), .val (.ref b12), .val (.ref b17), .val (.ref b22), .val (.ref b27), .val (.int (1 : Int32))] []))
    refine own_iload X141 hx (hb hby at_131) rfl rfl ?_
    refine own_ifF X141 hx (hb hby at_133) rfl (by decide) ?_
    refine own_aload X141 hx (hb hby at_136) rfl rfl rfl ?_
    refine own_virtual X141 hx hZ (y := (⟨"com/example/ledgerleaf/ledgerleaf/Findings", "isEmpty", "()Z"⟩ : MethodName)) (z := (⟨"com/example/ledgerleaf/ledgerleaf/Findings", "isEmpty", "()Z"⟩ : MethodName)) hown (hw _ (List.mem_of_getElem? (i := 71) rfl)) (hw _ (List.mem_of_getElem? (i := 72) rfl)) (notFace_of_selects (args := #[]) (mvT hZ (hw _ (List.mem_of_getElem? (i := 74) rfl)))) (hw _ (List.mem_of_getElem? (i := 74) rfl)) (hw _ (List.mem_of_getElem? (i := 73) rfl)) (hw _ (List.mem_of_getElem? (i := 32) rfl)) (hw _ (List.mem_of_getElem? (i := 75) rfl)) (by decide) rfl (by decide) (W := 0) (by decide) (by decide) (by decide) [] [] (by rw [hml]; rfl) Ef141 (own_ise l Z a0 hw b27 (1 : Int64) T141.heap n0 Cf141) own_pd10 rfl rfl rfl (hb hby at_138) rfl ?_
    intro v142 T142 L142 X142 hQ142
    obtain ⟨rfl, Nq142, hh142⟩ := hQ142
    have N142 := Fr.app N141 Nq142
    rw [show (if (lcmpW (1 : Int64) (0 : Int64)) = (0 : Int32) then (1 : Int32) else 0) = (0 : Int32) from by decide]
    show own_Ends p e below _ (T142.setTop (mkF m 141 #[.val (.int p1), .val (.int p2), .val (.int p3), .val (.int p4), .val (.int p5), .val (.int (3 : Int32)), .val (.ref b1), .val (.ref b4), .val (.ref b8), .val (.ref b12), .val (.ref b17), .val (.ref b22), .val (.ref b27), .val (.int (1 : Int32))] [(.int (0 : Int32))]))
    refine own_ifF X142 hx (hb hby at_141) rfl (by decide) ?_
    refine own_iconst X142 hx (1 : Int32) (hb hby at_144) (by decide) rfl ?_
    refine own_goto X142 hx (hb hby at_145) (by decide) rfl ?_
    refine own_istore X142 hx #[.val (.int p1), .val (.int p2), .val (.int p3), .val (.int p4), .val (.int p5), .val (.int (3 : Int32)), .val (.ref b1), .val (.ref b4), .val (.ref b8), .val (.ref b12), .val (.ref b17), .val (.ref b22), .val (.ref b27), .val (.int (1 : Int32))] (hb hby at_149) rfl rfl ?_
    refine own_iload X142 hx (hb hby at_151) rfl rfl ?_
    refine own_iconst X142 hx (2 : Int32) (hb hby at_153) (by decide) rfl ?_
    refine own_icmpF X142 hx (hb hby at_154) rfl (by decide) ?_
    refine own_aload X142 hx (hb hby at_157) rfl rfl rfl ?_
    refine own_new X142 hx hZ hown (hw _ (List.mem_of_getElem? (i := 138) rfl)) (hw _ (List.mem_of_getElem? (i := 139) rfl)) (hw _ (List.mem_of_getElem? (i := 140) rfl)) hh142 (hb hby at_159) (by decide) (by decide) rfl ?_
    intro T143 h143 b143 X143 e143 g143 E143 A143 D143
    have f144 := (f125.keep Kq141 (allS g_b27 (allS g_lb all0)))
    have g_b143 : n0 ≤ b143 := Nat.le_trans (own_oz f144) (Nat.le_of_eq g143.symm)
    have Fb143_line : Fld Z h143 b143 "com/example/ledgerleaf/ledgerleaf/Finding" "line" "I" (.int (0 : Int32)) := D143 (Or.inr (hw _ (List.mem_of_getElem? (i := 151) rfl))) (ty := .int) (by decide)
    have Fb143_message : Fld Z h143 b143 "com/example/ledgerleaf/ledgerleaf/Finding" "message" "Ljava/lang/String;" .null := D143 (Or.inr (hw _ (List.mem_of_getElem? (i := 153) rfl))) (ty := (.object "java/lang/String")) (by decide)
    refine own_dup X143 hx (hb hby at_162) rfl rfl ?_
    refine own_iloadN X143 hx (hb hby at_163) rfl rfl ?_
    refine own_aload X143 hx (hb hby at_164) rfl rfl rfl ?_
    refine own_special X143 hx hZ (y := (⟨"com/example/ledgerleaf/ledgerleaf/Finding", "<init>", "(ILjava/lang/String;)V"⟩ : MethodName)) rfl hown (hw _ (List.mem_of_getElem? (i := 141) rfl)) (hw _ (List.mem_of_getElem? (i := 142) rfl)) (hw _ (List.mem_of_getElem? (i := 140) rfl)) (hw _ (List.mem_of_getElem? (i := 143) rfl)) (by decide) e143 (by decide) (W := 2) (by decide) (by decide) (by decide) [(.int p3), (.ref b17)] [(.ref b143), (.ref b27)] (by rw [hml]; rfl) (a := b143) (own_fin l Z a0 hw b143 b17 p3 h143 n0 g_b143 A143 D143) own_pd14 rfl rfl rfl (hb hby at_166) rfl ?_
    intro v145 T145 L145 X145 hQ145
    obtain ⟨rfl, Nq145, Kq145, Ee145, Fm145⟩ := hQ145
    have N145 := Fr.app N142 Nq145
    show own_Ends p e below _ (T145.setTop (mkF m 169 #[.val (.int p1), .val (.int p2), .val (.int p3), .val (.int p4), .val (.int p5), .val (.int (3 : Int32)), .val (.ref b1), .val (.ref b4), .val (.ref b8), .val (.ref b12), .val (.ref b17), .val (.ref b22), .val (.ref b27), .val (.int (1 : Int32))] [(.ref b143), (.ref b27)]))
    have f146 := ((f144.ext E143).keep Kq145 (allS g_b143 all0))
    have f147 := ((Ef141.ext E143).keep Kq145)
    have f148 := ((Bf141.ext E143).keep Kq145 (ninS (Nat.ne_of_lt (Nat.lt_of_lt_of_le Ef141.lt (Nat.le_of_eq g143.symm))) nin0))
    have f149 := ((Rf141.ext E143).keep Kq145 (ninS (Nat.ne_of_lt (Nat.lt_of_lt_of_le Ef141.lt (Nat.le_of_eq g143.symm))) nin0))
    have f150 := ((Nf141.ext E143).keep Kq145 (ninS (Nat.ne_of_lt (Nat.lt_of_lt_of_le Ef141.lt (Nat.le_of_eq g143.symm))) nin0))
    have f151 := ((Sf141.ext E143).keep Kq145 (ninS (Nat.ne_of_lt (Nat.lt_of_lt_of_le Ef141.lt (Nat.le_of_eq g143.symm))) nin0))
    have f152 := ((Cf141.ext E143).keep Kq145 (ninS (Nat.ne_of_lt (Nat.lt_of_lt_of_le Ef141.lt (Nat.le_of_eq g143.symm))) nin0))
    have f153 := ((Lf141.ext E143).keep Kq145 (ninS (Nat.ne_of_lt (Nat.lt_of_lt_of_le Ef141.lt (Nat.le_of_eq g143.symm))) nin0))
    have f154 := (((((((((Es21.ext E22).keep Kq26).ext E27).keep Kq30).ext E122).keep Kq124).keep Kq141).ext E143).keep Kq145)
    have f155 := (((((((((Vs21.ext E22).keep Kq26 (ninS (Nat.ne_of_lt (Nat.lt_of_lt_of_le Es21.lt (Nat.le_of_eq g22.symm))) nin0)).ext E27).keep Kq30 (ninS (Nat.ne_of_lt (Nat.lt_of_lt_of_le ((Es21.ext E22).keep Kq26).lt (Nat.le_of_eq g27.symm))) nin0)).ext E122).keep Kq124 (ninS (Nat.ne_of_lt (Nat.lt_of_lt_of_le ((((Es21.ext E22).keep Kq26).ext E27).keep Kq30).lt (Nat.le_of_eq g122.symm))) nin0)).keep Kq141 (ninS (Nat.ne_of_lt (Nat.lt_of_lt_of_le ((Es21.ext E22).keep Kq26).lt (Nat.le_of_eq g27.symm))) (ninS (Ne.symm (ne_exa Elb ((((Es21.ext E22).keep Kq26).ext E27).keep Kq30) (by decide))) nin0))).ext E143).keep Kq145 (ninS (Nat.ne_of_lt (Nat.lt_of_lt_of_le (((((((Es21.ext E22).keep Kq26).ext E27).keep Kq30).ext E122).keep Kq124).keep Kq141).lt (Nat.le_of_eq g143.symm))) nin0))
    have f156 := (((((((((Cs21.ext E22).keep Kq26 (ninS (Nat.ne_of_lt (Nat.lt_of_lt_of_le Es21.lt (Nat.le_of_eq g22.symm))) nin0)).ext E27).keep Kq30 (ninS (Nat.ne_of_lt (Nat.lt_of_lt_of_le ((Es21.ext E22).keep Kq26).lt (Nat.le_of_eq g27.symm))) nin0)).ext E122).keep Kq124 (ninS (Nat.ne_of_lt (Nat.lt_of_lt_of_le ((((Es21.ext E22).keep Kq26).ext E27).keep Kq30).lt (Nat.le_of_eq g122.symm))) nin0)).keep Kq141 (ninS (Nat.ne_of_lt (Nat.lt_of_lt_of_le ((Es21.ext E22).keep Kq26).lt (Nat.le_of_eq g27.symm))) (ninS (Ne.symm (ne_exa Elb ((((Es21.ext E22).keep Kq26).ext E27).keep Kq30) (by decide))) nin0))).ext E143).keep Kq145 (ninS (Nat.ne_of_lt (Nat.lt_of_lt_of_le (((((((Es21.ext E22).keep Kq26).ext E27).keep Kq30).ext E122).keep Kq124).keep Kq141).lt (Nat.le_of_eq g143.symm))) nin0))
    have f157 := (((((((((Ks21.ext E22).keep Kq26 (ninS (Nat.ne_of_lt (Nat.lt_of_lt_of_le Ks21.lt (Nat.le_of_eq g22.symm))) nin0)).ext E27).keep Kq30 (ninS (Nat.ne_of_lt (Nat.lt_of_lt_of_le ((Ks21.ext E22).keep Kq26 (ninS (Nat.ne_of_lt (Nat.lt_of_lt_of_le Ks21.lt (Nat.le_of_eq g22.symm))) nin0)).lt (Nat.le_of_eq g27.symm))) nin0)).ext E122).keep Kq124 (ninS (Nat.ne_of_lt (Nat.lt_of_lt_of_le ((((Ks21.ext E22).keep Kq26 (ninS (Nat.ne_of_lt (Nat.lt_of_lt_of_le Ks21.lt (Nat.le_of_eq g22.symm))) nin0)).ext E27).keep Kq30 (ninS (Nat.ne_of_lt (Nat.lt_of_lt_of_le ((Ks21.ext E22).keep Kq26 (ninS (Nat.ne_of_lt (Nat.lt_of_lt_of_le Ks21.lt (Nat.le_of_eq g22.symm))) nin0)).lt (Nat.le_of_eq g27.symm))) nin0)).lt (Nat.le_of_eq g122.symm))) nin0)).keep Kq141 (ninS (Nat.ne_of_lt (Nat.lt_of_lt_of_le ((Ks21.ext E22).keep Kq26 (ninS (Nat.ne_of_lt (Nat.lt_of_lt_of_le Ks21.lt (Nat.le_of_eq g22.symm))) nin0)).lt (Nat.le_of_eq g27.symm))) (ninS (Ne.symm (Exa.neArv Elb ((((Ks21.ext E22).keep Kq26 (ninS (Nat.ne_of_lt (Nat.lt_of_lt_of_le Ks21.lt (Nat.le_of_eq g22.symm))) nin0)).ext E27).keep Kq30 (ninS (Nat.ne_of_lt (Nat.lt_of_lt_of_le ((Ks21.ext E22).keep Kq26 (ninS (Nat.ne_of_lt (Nat.lt_of_lt_of_le Ks21.lt (Nat.le_of_eq g22.symm))) nin0)).lt (Nat.le_of_eq g27.symm))) nin0)) (hw _ (List.mem_of_getElem? (i := 38) rfl)))) nin0))).ext E143).keep Kq145 (ninS (Nat.ne_of_lt (Nat.lt_of_lt_of_le (((((((Ks21.ext E22).keep Kq26 (ninS (Nat.ne_of_lt (Nat.lt_of_lt_of_le Ks21.lt (Nat.le_of_eq g22.symm))) nin0)).ext E27).keep Kq30 (ninS (Nat.ne_of_lt (Nat.lt_of_lt_of_le ((Ks21.ext E22).keep Kq26 (ninS (Nat.ne_of_lt (Nat.lt_of_lt_of_le Ks21.lt (Nat.le_of_eq g22.symm))) nin0)).lt (Nat.le_of_eq g27.symm))) nin0)).ext E122).keep Kq124 (ninS (Nat.ne_of_lt (Nat.lt_of_lt_of_le ((((Ks21.ext E22).keep Kq26 (ninS (Nat.ne_of_lt (Nat.lt_of_lt_of_le Ks21.lt (Nat.le_of_eq g22.symm))) nin0)).ext E27).keep Kq30 (ninS (Nat.ne_of_lt (Nat.lt_of_lt_of_le ((Ks21.ext E22).keep Kq26 (ninS (Nat.ne_of_lt (Nat.lt_of_lt_of_le Ks21.lt (Nat.le_of_eq g22.symm))) nin0)).lt (Nat.le_of_eq g27.symm))) nin0)).lt (Nat.le_of_eq g122.symm))) nin0)).keep Kq141 (ninS (Nat.ne_of_lt (Nat.lt_of_lt_of_le ((Ks21.ext E22).keep Kq26 (ninS (Nat.ne_of_lt (Nat.lt_of_lt_of_le Ks21.lt (Nat.le_of_eq g22.symm))) nin0)).lt (Nat.le_of_eq g27.symm))) (ninS (Ne.symm (Exa.neArv Elb ((((Ks21.ext E22).keep Kq26 (ninS (Nat.ne_of_lt (Nat.lt_of_lt_of_le Ks21.lt (Nat.le_of_eq g22.symm))) nin0)).ext E27).keep Kq30 (ninS (Nat.ne_of_lt (Nat.lt_of_lt_of_le ((Ks21.ext E22).keep Kq26 (ninS (Nat.ne_of_lt (Nat.lt_of_lt_of_le Ks21.lt (Nat.le_of_eq g22.symm))) nin0)).lt (Nat.le_of_eq g27.symm))) nin0)) (hw _ (List.mem_of_getElem? (i := 38) rfl)))) nin0))).lt (Nat.le_of_eq g143.symm))) nin0))
    have f158 := ((El141.ext E143).keep Kq145)
    have f159 := ((Ml141.ext E143).keep Kq145 (ninS (Nat.ne_of_lt (Nat.lt_of_lt_of_le El141.lt (Nat.le_of_eq g143.symm))) nin0))
    have f160 := ((Dl141.ext E143).keep Kq145 (ninS (Nat.ne_of_lt (Nat.lt_of_lt_of_le El141.lt (Nat.le_of_eq g143.symm))) nin0))
    have f161 := ((Sl141.ext E143).keep Kq145 (ninS (Nat.ne_of_lt (Nat.lt_of_lt_of_le El141.lt (Nat.le_of_eq g143.symm))) nin0))
    have f162 := ((V141.ext E143).keep Kq145 (ninS (Nat.ne_of_lt (Nat.lt_of_lt_of_le V141.lt (Nat.le_of_eq g143.symm))) nin0))
    refine own_virtual X145 hx hZ (y := (⟨"com/example/ledgerleaf/ledgerleaf/Findings", "add", "(Lcom/example/ledgerleaf/ledgerleaf/Finding;)V"⟩ : MethodName)) (z := (⟨"com/example/ledgerleaf/ledgerleaf/Findings", "add", "(Lcom/example/ledgerleaf/ledgerleaf/Finding;)V"⟩ : MethodName)) hown (hw _ (List.mem_of_getElem? (i := 154) rfl)) (hw _ (List.mem_of_getElem? (i := 155) rfl)) (notFace_of_selects (args := #[]) (mvT hZ (hw _ (List.mem_of_getElem? (i := 157) rfl)))) (hw _ (List.mem_of_getElem? (i := 157) rfl)) (hw _ (List.mem_of_getElem? (i := 156) rfl)) (hw _ (List.mem_of_getElem? (i := 32) rfl)) (hw _ (List.mem_of_getElem? (i := 158) rfl)) (by decide) rfl (by decide) (W := 0) (by decide) (by decide) (by decide) [(.ref b143)] [] (by rw [hml]; rfl) f147 (own_fadd_1 l Z a0 hw b27 b143 lb lr b17 de b141 b122 kd k141 ((0 : Int32) + (1 : Int32)) c6 zc T145.heap n0 f146 SC hzc SD VD g_b27 g_lb g_b141 ⟨f147, f148, f149, f150, f151, f152, f153⟩ Ee145 Fm145 ⟨_, _, _, _, _, f154, f155, f156, f157, co21, hb21, (Nat.le_of_ble_eq_true rfl)⟩ ⟨f158, f159, f160, f161⟩ f162 Ov141) own_pd15 rfl rfl rfl (hb hby at_169) rfl ?_
    intro v163 T163 L163 X163 hQ163
    obtain ⟨rfl, Nq163, Kq163, ⟨Ef163, Bf163, Rf163, Nf163, Sf163, Cf163, Lf163⟩, Al163, V163⟩ := hQ163
    have N163 := Fr.app N145 Nq163
    obtain ⟨El163, Ml163, Dl163, Sl163⟩ := Al163
    show own_Ends p e below _ (T163.setTop (mkF m 172 #[.val (.int p1), .val (.int p2), .val (.int p3), .val (.int p4), .val (.int p5), .val (.int (3 : Int32)), .val (.ref b1), .val (.ref b4), .val (.ref b8), .val (.ref b12), .val (.ref b17), .val (.ref b22), .val (.ref b27), .val (.int (1 : Int32))] []))
    refine own_iload X163 hx (hb hby at_172) rfl rfl ?_
    refine own_ifF X163 hx (hb hby at_174) rfl (by decide) ?_
    refine own_aload X163 hx (hb hby at_177) rfl rfl rfl ?_
    refine own_virtual X163 hx hZ (y := (⟨"com/example/ledgerleaf/ledgerleaf/Findings", "isEmpty", "()Z"⟩ : MethodName)) (z := (⟨"com/example/ledgerleaf/ledgerleaf/Findings", "isEmpty", "()Z"⟩ : MethodName)) hown (hw _ (List.mem_of_getElem? (i := 71) rfl)) (hw _ (List.mem_of_getElem? (i := 72) rfl)) (notFace_of_selects (args := #[]) (mvT hZ (hw _ (List.mem_of_getElem? (i := 74) rfl)))) (hw _ (List.mem_of_getElem? (i := 74) rfl)) (hw _ (List.mem_of_getElem? (i := 73) rfl)) (hw _ (List.mem_of_getElem? (i := 32) rfl)) (hw _ (List.mem_of_getElem? (i := 75) rfl)) (by decide) rfl (by decide) (W := 0) (by decide) (by decide) (by decide) [] [] (by rw [hml]; rfl) Ef163 (own_ise l Z a0 hw b27 (2 : Int64) T163.heap n0 Cf163) own_pd10 rfl rfl rfl (hb hby at_179) rfl ?_
    intro v164 T164 L164 X164 hQ164
    obtain ⟨rfl, Nq164, hh164⟩ := hQ164
    have N164 := Fr.app N163 Nq164
    rw [show (if (lcmpW (2 : Int64) (0 : Int64)) = (0 : Int32) then (1 : Int32) else 0) = (0 : Int32) from by decide]
    show own_Ends p e below _ (T164.setTop (mkF m 182 #[.val (.int p1), .val (.int p2), .val (.int p3), .val (.int p4), .val (.int p5), .val (.int (3 : Int32)), .val (.ref b1), .val (.ref b4), .val (.ref b8), .val (.ref b12), .val (.ref b17), .val (.ref b22), .val (.ref b27), .val (.int (1 : Int32))] [(.int (0 : Int32))]))
    refine own_ifF X164 hx (hb hby at_182) rfl (by decide) ?_
    refine own_iconst X164 hx (1 : Int32) (hb hby at_185) (by decide) rfl ?_
    refine own_goto X164 hx (hb hby at_186) (by decide) rfl ?_
    refine own_istore X164 hx #[.val (.int p1), .val (.int p2), .val (.int p3), .val (.int p4), .val (.int p5), .val (.int (3 : Int32)), .val (.ref b1), .val (.ref b4), .val (.ref b8), .val (.ref b12), .val (.ref b17), .val (.ref b22), .val (.ref b27), .val (.int (1 : Int32))] (hb hby at_190) rfl rfl ?_
    refine own_iload X164 hx (hb hby at_192) rfl rfl ?_
    refine own_iconst X164 hx (3 : Int32) (hb hby at_194) (by decide) rfl ?_
    refine own_icmpF X164 hx (hb hby at_195) rfl (by decide) ?_
    refine own_aload X164 hx (hb hby at_198) rfl rfl rfl ?_
    refine own_new X164 hx hZ hown (hw _ (List.mem_of_getElem? (i := 138) rfl)) (hw _ (List.mem_of_getElem? (i := 139) rfl)) (hw _ (List.mem_of_getElem? (i := 140) rfl)) hh164 (hb hby at_200) (by decide) (by decide) rfl ?_
    intro T165 h165 b165 X165 e165 g165 E165 A165 D165
    have f166 := (f146.keep Kq163 (allS g_b27 (allS g_lb (allS g_b141 all0))))
    have g_b165 : n0 ≤ b165 := Nat.le_trans (own_oz f166) (Nat.le_of_eq g165.symm)
    have Fb165_line : Fld Z h165 b165 "com/example/ledgerleaf/ledgerleaf/Finding" "line" "I" (.int (0 : Int32)) := D165 (Or.inr (hw _ (List.mem_of_getElem? (i := 151) rfl))) (ty := .int) (by decide)
    have Fb165_message : Fld Z h165 b165 "com/example/ledgerleaf/ledgerleaf/Finding" "message" "Ljava/lang/String;" .null := D165 (Or.inr (hw _ (List.mem_of_getElem? (i := 153) rfl))) (ty := (.object "java/lang/String")) (by decide)
    refine own_dup X165 hx (hb hby at_203) rfl rfl ?_
    refine own_iloadN X165 hx (hb hby at_204) rfl rfl ?_
    refine own_aload X165 hx (hb hby at_205) rfl rfl rfl ?_
    refine own_special X165 hx hZ (y := (⟨"com/example/ledgerleaf/ledgerleaf/Finding", "<init>", "(ILjava/lang/String;)V"⟩ : MethodName)) rfl hown (hw _ (List.mem_of_getElem? (i := 141) rfl)) (hw _ (List.mem_of_getElem? (i := 142) rfl)) (hw _ (List.mem_of_getElem? (i := 140) rfl)) (hw _ (List.mem_of_getElem? (i := 143) rfl)) (by decide) e165 (by decide) (W := 2) (by decide) (by decide) (by decide) [(.int p4), (.ref b22)] [(.ref b165), (.ref b27)] (by rw [hml]; rfl) (a := b165) (own_fin l Z a0 hw b165 b22 p4 h165 n0 g_b165 A165 D165) own_pd14 rfl rfl rfl (hb hby at_207) rfl ?_
    intro v167 T167 L167 X167 hQ167
    obtain ⟨rfl, Nq167, Kq167, Ee167, Fm167⟩ := hQ167
    have N167 := Fr.app N164 Nq167
    show own_Ends p e below _ (T167.setTop (mkF m 210 #[.val (.int p1), .val (.int p2), .val (.int p3), .val (.int p4), .val (.int p5), .val (.int (3 : Int32)), .val (.ref b1), .val (.ref b4), .val (.ref b8), .val (.ref b12), .val (.ref b17), .val (.ref b22), .val (.ref b27), .val (.int (1 : Int32))] [(.ref b165), (.ref b27)]))
    have f168 := ((f166.ext E165).keep Kq167 (allS g_b165 all0))
    have f169 := ((Ef163.ext E165).keep Kq167)
    have f170 := ((Bf163.ext E165).keep Kq167 (ninS (Nat.ne_of_lt (Nat.lt_of_lt_of_le Ef163.lt (Nat.le_of_eq g165.symm))) nin0))
    have f171 := ((Rf163.ext E165).keep Kq167 (ninS (Nat.ne_of_lt (Nat.lt_of_lt_of_le Ef163.lt (Nat.le_of_eq g165.symm))) nin0))
    have f172 := ((Nf163.ext E165).keep Kq167 (ninS (Nat.ne_of_lt (Nat.lt_of_lt_of_le Ef163.lt (Nat.le_of_eq g165.symm))) nin0))
    have f173 := ((Sf163.ext E165).keep Kq167 (ninS (Nat.ne_of_lt (Nat.lt_of_lt_of_le Ef163.lt (Nat.le_of_eq g165.symm))) nin0))
    have f174 := ((Cf163.ext E165).keep Kq167 (ninS (Nat.ne_of_lt (Nat.lt_of_lt_of_le Ef163.lt (Nat.le_of_eq g165.symm))) nin0))
    have f175 := ((Lf163.ext E165).keep Kq167 (ninS (Nat.ne_of_lt (Nat.lt_of_lt_of_le Ef163.lt (Nat.le_of_eq g165.symm))) nin0))
    have f176 := ((((((((((Es26.ext E27).keep Kq30).ext E122).keep Kq124).keep Kq141).ext E143).keep Kq145).keep Kq163).ext E165).keep Kq167)
    have f177 := ((((((((((Vs26.ext E27).keep Kq30 (ninS (Nat.ne_of_lt (Nat.lt_of_lt_of_le Es26.lt (Nat.le_of_eq g27.symm))) nin0)).ext E122).keep Kq124 (ninS (Nat.ne_of_lt (Nat.lt_of_lt_of_le ((Es26.ext E27).keep Kq30).lt (Nat.le_of_eq g122.symm))) nin0)).keep Kq141 (ninS (Nat.ne_of_lt (Nat.lt_of_lt_of_le Es26.lt (Nat.le_of_eq g27.symm))) (ninS (Ne.symm (ne_exa Elb ((Es26.ext E27).keep Kq30) (by decide))) nin0))).ext E143).keep Kq145 (ninS (Nat.ne_of_lt (Nat.lt_of_lt_of_le (((((Es26.ext E27).keep Kq30).ext E122).keep Kq124).keep Kq141).lt (Nat.le_of_eq g143.symm))) nin0)).keep Kq163 (ninS (Nat.ne_of_lt (Nat.lt_of_lt_of_le Es26.lt (Nat.le_of_eq g27.symm))) (ninS (Ne.symm (ne_exa Elb ((Es26.ext E27).keep Kq30) (by decide))) (ninS (Ne.symm (Ne.symm (Exa.neArv (((((Es26.ext E27).keep Kq30).ext E122).keep Kq124).keep Kq141) V141 (hw _ (List.mem_of_getElem? (i := 2) rfl))))) nin0)))).ext E165).keep Kq167 (ninS (Nat.ne_of_lt (Nat.lt_of_lt_of_le ((((((((Es26.ext E27).keep Kq30).ext E122).keep Kq124).keep Kq141).ext E143).keep Kq145).keep Kq163).lt (Nat.le_of_eq g165.symm))) nin0))
    have f178 := ((((((((((Cs26.ext E27).keep Kq30 (ninS (Nat.ne_of_lt (Nat.lt_of_lt_of_le Es26.lt (Nat.le_of_eq g27.symm))) nin0)).ext E122).keep Kq124 (ninS (Nat.ne_of_lt (Nat.lt_of_lt_of_le ((Es26.ext E27).keep Kq30).lt (Nat.le_of_eq g122.symm))) nin0)).keep Kq141 (ninS (Nat.ne_of_lt (Nat.lt_of_lt_of_le Es26.lt (Nat.le_of_eq g27.symm))) (ninS (Ne.symm (ne_exa Elb ((Es26.ext E27).keep Kq30) (by decide))) nin0))).ext E143).keep Kq145 (ninS (Nat.ne_of_lt (Nat.lt_of_lt_of_le (((((Es26.ext E27).keep Kq30).ext E122).keep Kq124).keep Kq141).lt (Nat.le_of_eq g143.symm))) nin0)).keep Kq163 (ninS (Nat.ne_of_lt (Nat.lt_of_lt_of_le Es26.lt (Nat.le_of_eq g27.symm))) (ninS (Ne.symm (ne_exa Elb ((Es26.ext E27).keep Kq30) (by decide))) (ninS (Ne.symm (Ne.symm (Exa.neArv (((((Es26.ext E27).keep Kq30).ext E122).keep Kq124).keep Kq141) V141 (hw _ (List.mem_of_getElem? (i := 2) rfl))))) nin0)))).ext E165).keep Kq167 (ninS (Nat.ne_of_lt (Nat.lt_of_lt_of_le ((((((((Es26.ext E27).keep Kq30).ext E122).keep Kq124).keep Kq141).ext E143).keep Kq145).keep Kq163).lt (Nat.le_of_eq g165.symm))) nin0))
    have f179 := ((((((((((Ks26.ext E27).keep Kq30 (ninS (Nat.ne_of_lt (Nat.lt_of_lt_of_le Ks26.lt (Nat.le_of_eq g27.symm))) nin0)).ext E122).keep Kq124 (ninS (Nat.ne_of_lt (Nat.lt_of_lt_of_le ((Ks26.ext E27).keep Kq30 (ninS (Nat.ne_of_lt (Nat.lt_of_lt_of_le Ks26.lt (Nat.le_of_eq g27.symm))) nin0)).lt (Nat.le_of_eq g122.symm))) nin0)).keep Kq141 (ninS (Nat.ne_of_lt (Nat.lt_of_lt_of_le Ks26.lt (Nat.le_of_eq g27.symm))) (ninS (Ne.symm (Exa.neArv Elb ((Ks26.ext E27).keep Kq30 (ninS (Nat.ne_of_lt (Nat.lt_of_lt_of_le Ks26.lt (Nat.le_of_eq g27.symm))) nin0)) (hw _ (List.mem_of_getElem? (i := 38) rfl)))) nin0))).ext E143).keep Kq145 (ninS (Nat.ne_of_lt (Nat.lt_of_lt_of_le (((((Ks26.ext E27).keep Kq30 (ninS (Nat.ne_of_lt (Nat.lt_of_lt_of_le Ks26.lt (Nat.le_of_eq g27.symm))) nin0)).ext E122).keep Kq124 (ninS (Nat.ne_of_lt (Nat.lt_of_lt_of_le ((Ks26.ext E27).keep Kq30 (ninS (Nat.ne_of_lt (Nat.lt_of_lt_of_le Ks26.lt (Nat.le_of_eq g27.symm))) nin0)).lt (Nat.le_of_eq g122.symm))) nin0)).keep Kq141 (ninS (Nat.ne_of_lt (Nat.lt_of_lt_of_le Ks26.lt (Nat.le_of_eq g27.symm))) (ninS (Ne.symm (Exa.neArv Elb ((Ks26.ext E27).keep Kq30 (ninS (Nat.ne_of_lt (Nat.lt_of_lt_of_le Ks26.lt (Nat.le_of_eq g27.symm))) nin0)) (hw _ (List.mem_of_getElem? (i := 38) rfl)))) nin0))).lt (Nat.le_of_eq g143.symm))) nin0)).keep Kq163 (ninS (Nat.ne_of_lt (Nat.lt_of_lt_of_le Ks26.lt (Nat.le_of_eq g27.symm))) (ninS (Ne.symm (Exa.neArv Elb ((Ks26.ext E27).keep Kq30 (ninS (Nat.ne_of_lt (Nat.lt_of_lt_of_le Ks26.lt (Nat.le_of_eq g27.symm))) nin0)) (hw _ (List.mem_of_getElem? (i := 38) rfl)))) (ninS (own_neV (((((Ks26.ext E27).keep Kq30 (ninS (Nat.ne_of_lt (Nat.lt_of_lt_of_le Ks26.lt (Nat.le_of_eq g27.symm))) nin0)).ext E122).keep Kq124 (ninS (Nat.ne_of_lt (Nat.lt_of_lt_of_le ((Ks26.ext E27).keep Kq30 (ninS (Nat.ne_of_lt (Nat.lt_of_lt_of_le Ks26.lt (Nat.le_of_eq g27.symm))) nin0)).lt (Nat.le_of_eq g122.symm))) nin0)).keep Kq141 (ninS (Nat.ne_of_lt (Nat.lt_of_lt_of_le Ks26.lt (Nat.le_of_eq g27.symm))) (ninS (Ne.symm (Exa.neArv Elb ((Ks26.ext E27).keep Kq30 (ninS (Nat.ne_of_lt (Nat.lt_of_lt_of_le Ks26.lt (Nat.le_of_eq g27.symm))) nin0)) (hw _ (List.mem_of_getElem? (i := 38) rfl)))) nin0))) V141 (by decide)) nin0)))).ext E165).keep Kq167 (ninS (Nat.ne_of_lt (Nat.lt_of_lt_of_le ((((((((Ks26.ext E27).keep Kq30 (ninS (Nat.ne_of_lt (Nat.lt_of_lt_of_le Ks26.lt (Nat.le_of_eq g27.symm))) nin0)).ext E122).keep Kq124 (ninS (Nat.ne_of_lt (Nat.lt_of_lt_of_le ((Ks26.ext E27).keep Kq30 (ninS (Nat.ne_of_lt (Nat.lt_of_lt_of_le Ks26.lt (Nat.le_of_eq g27.symm))) nin0)).lt (Nat.le_of_eq g122.symm))) nin0)).keep Kq141 (ninS (Nat.ne_of_lt (Nat.lt_of_lt_of_le Ks26.lt (Nat.le_of_eq g27.symm))) (ninS (Ne.symm (Exa.neArv Elb ((Ks26.ext E27).keep Kq30 (ninS (Nat.ne_of_lt (Nat.lt_of_lt_of_le Ks26.lt (Nat.le_of_eq g27.symm))) nin0)) (hw _ (List.mem_of_getElem? (i := 38) rfl)))) nin0))).ext E143).keep Kq145 (ninS (Nat.ne_of_lt (Nat.lt_of_lt_of_le (((((Ks26.ext E27).keep Kq30 (ninS (Nat.ne_of_lt (Nat.lt_of_lt_of_le Ks26.lt (Nat.le_of_eq g27.symm))) nin0)).ext E122).keep Kq124 (ninS (Nat.ne_of_lt (Nat.lt_of_lt_of_le ((Ks26.ext E27).keep Kq30 (ninS (Nat.ne_of_lt (Nat.lt_of_lt_of_le Ks26.lt (Nat.le_of_eq g27.symm))) nin0)).lt (Nat.le_of_eq g122.symm))) nin0)).keep Kq141 (ninS (Nat.ne_of_lt (Nat.lt_of_lt_of_le Ks26.lt (Nat.le_of_eq g27.symm))) (ninS (Ne.symm (Exa.neArv Elb ((Ks26.ext E27).keep Kq30 (ninS (Nat.ne_of_lt (Nat.lt_of_lt_of_le Ks26.lt (Nat.le_of_eq g27.symm))) nin0)) (hw _ (List.mem_of_getElem? (i := 38) rfl)))) nin0))).lt (Nat.le_of_eq g143.symm))) nin0)).keep Kq163 (ninS (Nat.ne_of_lt (Nat.lt_of_lt_of_le Ks26.lt (Nat.le_of_eq g27.symm))) (ninS (Ne.symm (Exa.neArv Elb ((Ks26.ext E27).keep Kq30 (ninS (Nat.ne_of_lt (Nat.lt_of_lt_of_le Ks26.lt (Nat.le_of_eq g27.symm))) nin0)) (hw _ (List.mem_of_getElem? (i := 38) rfl)))) (ninS (own_neV (((((Ks26.ext E27).keep Kq30 (ninS (Nat.ne_of_lt (Nat.lt_of_lt_of_le Ks26.lt (Nat.le_of_eq g27.symm))) nin0)).ext E122).keep Kq124 (ninS (Nat.ne_of_lt (Nat.lt_of_lt_of_le ((Ks26.ext E27).keep Kq30 (ninS (Nat.ne_of_lt (Nat.lt_of_lt_of_le Ks26.lt (Nat.le_of_eq g27.symm))) nin0)).lt (Nat.le_of_eq g122.symm))) nin0)).keep Kq141 (ninS (Nat.ne_of_lt (Nat.lt_of_lt_of_le Ks26.lt (Nat.le_of_eq g27.symm))) (ninS (Ne.symm (Exa.neArv Elb ((Ks26.ext E27).keep Kq30 (ninS (Nat.ne_of_lt (Nat.lt_of_lt_of_le Ks26.lt (Nat.le_of_eq g27.symm))) nin0)) (hw _ (List.mem_of_getElem? (i := 38) rfl)))) nin0))) V141 (by decide)) nin0)))).lt (Nat.le_of_eq g165.symm))) nin0))
    have f180 := ((El163.ext E165).keep Kq167)
    have f181 := ((Ml163.ext E165).keep Kq167 (ninS (Nat.ne_of_lt (Nat.lt_of_lt_of_le El163.lt (Nat.le_of_eq g165.symm))) nin0))
    have f182 := ((Dl163.ext E165).keep Kq167 (ninS (Nat.ne_of_lt (Nat.lt_of_lt_of_le El163.lt (Nat.le_of_eq g165.symm))) nin0))
    have f183 := ((Sl163.ext E165).keep Kq167 (ninS (Nat.ne_of_lt (Nat.lt_of_lt_of_le El163.lt (Nat.le_of_eq g165.symm))) nin0))
    have f184 := ((V163.ext E165).keep Kq167 (ninS (Nat.ne_of_lt (Nat.lt_of_lt_of_le V163.lt (Nat.le_of_eq g165.symm))) nin0))
    refine own_virtual X167 hx hZ (y := (⟨"com/example/ledgerleaf/ledgerleaf/Findings", "add", "(Lcom/example/ledgerleaf/ledgerleaf/Finding;)V"⟩ : MethodName)) (z := (⟨"com/example/ledgerleaf/ledgerleaf/Findings", "add", "(Lcom/example/ledgerleaf/ledgerleaf/Finding;)V"⟩ : MethodName)) hown (hw _ (List.mem_of_getElem? (i := 154) rfl)) (hw _ (List.mem_of_getElem? (i := 155) rfl)) (notFace_of_selects (args := #[]) (mvT hZ (hw _ (List.mem_of_getElem? (i := 157) rfl)))) (hw _ (List.mem_of_getElem? (i := 157) rfl)) (hw _ (List.mem_of_getElem? (i := 156) rfl)) (hw _ (List.mem_of_getElem? (i := 32) rfl)) (hw _ (List.mem_of_getElem? (i := 158) rfl)) (by decide) rfl (by decide) (W := 0) (by decide) (by decide) (by decide) [(.ref b165)] [] (by rw [hml]; rfl) f169 (own_fadd_2 l Z a0 hw b27 b165 lb lr b22 de b141 b122 b143 kd k141 (((0 : Int32) + (1 : Int32)) + (1 : Int32)) c10 zc T167.heap n0 f168 SC hzc SD VD g_b27 g_lb g_b141 ⟨f169, f170, f171, f172, f173, f174, f175⟩ Ee167 Fm167 ⟨_, _, _, _, _, f176, f177, f178, f179, co26, hb26, (Nat.le_of_ble_eq_true rfl)⟩ ⟨f180, f181, f182, f183⟩ f184 Ov141) own_pd15 rfl rfl rfl (hb hby at_210) rfl ?_
    intro v185 T185 L185 X185 hQ185
    obtain ⟨rfl, Nq185, Kq185, ⟨Ef185, Bf185, Rf185, Nf185, Sf185, Cf185, Lf185⟩, Al185, V185⟩ := hQ185
    have N185 := Fr.app N167 Nq185
    obtain ⟨El185, Ml185, Dl185, Sl185⟩ := Al185
    show own_Ends p e below _ (T185.setTop (mkF m 213 #[.val (.int p1), .val (.int p2), .val (.int p3), .val (.int p4), .val (.int p5), .val (.int (3 : Int32)), .val (.ref b1), .val (.ref b4), .val (.ref b8), .val (.ref b12), .val (.ref b17), .val (.ref b22), .val (.ref b27), .val (.int (1 : Int32))] []))
    refine own_iload X185 hx (hb hby at_213) rfl rfl ?_
    refine own_ifF X185 hx (hb hby at_215) rfl (by decide) ?_
    refine own_aload X185 hx (hb hby at_218) rfl rfl rfl ?_
    refine own_virtual X185 hx hZ (y := (⟨"com/example/ledgerleaf/ledgerleaf/Findings", "isEmpty", "()Z"⟩ : MethodName)) (z := (⟨"com/example/ledgerleaf/ledgerleaf/Findings", "isEmpty", "()Z"⟩ : MethodName)) hown (hw _ (List.mem_of_getElem? (i := 71) rfl)) (hw _ (List.mem_of_getElem? (i := 72) rfl)) (notFace_of_selects (args := #[]) (mvT hZ (hw _ (List.mem_of_getElem? (i := 74) rfl)))) (hw _ (List.mem_of_getElem? (i := 74) rfl)) (hw _ (List.mem_of_getElem? (i := 73) rfl)) (hw _ (List.mem_of_getElem? (i := 32) rfl)) (hw _ (List.mem_of_getElem? (i := 75) rfl)) (by decide) rfl (by decide) (W := 0) (by decide) (by decide) (by decide) [] [] (by rw [hml]; rfl) Ef185 (own_ise l Z a0 hw b27 (3 : Int64) T185.heap n0 Cf185) own_pd10 rfl rfl rfl (hb hby at_220) rfl ?_
    intro v186 T186 L186 X186 hQ186
    obtain ⟨rfl, Nq186, hh186⟩ := hQ186
    have N186 := Fr.app N185 Nq186
    rw [show (if (lcmpW (3 : Int64) (0 : Int64)) = (0 : Int32) then (1 : Int32) else 0) = (0 : Int32) from by decide]
    show own_Ends p e below _ (T186.setTop (mkF m 223 #[.val (.int p1), .val (.int p2), .val (.int p3), .val (.int p4), .val (.int p5), .val (.int (3 : Int32)), .val (.ref b1), .val (.ref b4), .val (.ref b8), .val (.ref b12), .val (.ref b17), .val (.ref b22), .val (.ref b27), .val (.int (1 : Int32))] [(.int (0 : Int32))]))
    refine own_ifF X186 hx (hb hby at_223) rfl (by decide) ?_
    refine own_iconst X186 hx (1 : Int32) (hb hby at_226) (by decide) rfl ?_
    refine own_goto X186 hx (hb hby at_227) (by decide) rfl ?_
    refine own_istore X186 hx #[.val (.int p1), .val (.int p2), .val (.int p3), .val (.int p4), .val (.int p5), .val (.int (3 : Int32)), .val (.ref b1), .val (.ref b4), .val (.ref b8), .val (.ref b12), .val (.ref b17), .val (.ref b22), .val (.ref b27), .val (.int (1 : Int32))] (hb hby at_231) rfl rfl ?_
    refine own_iload X186 hx (hb hby at_233) rfl rfl ?_
    refine own_ifF X186 hx (hb hby at_235) rfl (by decide) ?_
    refine own_aload X186 hx (hb hby at_238) rfl rfl rfl ?_
    refine own_virtual X186 hx hZ (y := (⟨"com/example/ledgerleaf/ledgerleaf/Findings", "isEmpty", "()Z"⟩ : MethodName)) (z := (⟨"com/example/ledgerleaf/ledgerleaf/Findings", "isEmpty", "()Z"⟩ : MethodName)) hown (hw _ (List.mem_of_getElem? (i := 71) rfl)) (hw _ (List.mem_of_getElem? (i := 72) rfl)) (notFace_of_selects (args := #[]) (mvT hZ (hw _ (List.mem_of_getElem? (i := 74) rfl)))) (hw _ (List.mem_of_getElem? (i := 74) rfl)) (hw _ (List.mem_of_getElem? (i := 73) rfl)) (hw _ (List.mem_of_getElem? (i := 32) rfl)) (hw _ (List.mem_of_getElem? (i := 75) rfl)) (by decide) hh186 (by decide) (W := 0) (by decide) (by decide) (by decide) [] [] (by rw [hml]; rfl) Ef185 (own_ise l Z a0 hw b27 (3 : Int64) T185.heap n0 Cf185) own_pd10 rfl rfl rfl (hb hby at_240) rfl ?_
    intro v187 T187 L187 X187 hQ187
    obtain ⟨rfl, Nq187, hh187⟩ := hQ187
    have N187 := Fr.app N186 Nq187
    rw [show (if (lcmpW (3 : Int64) (0 : Int64)) = (0 : Int32) then (1 : Int32) else 0) = (0 : Int32) from by decide]
    show own_Ends p e below _ (T187.setTop (mkF m 243 #[.val (.int p1), .val (.int p2), .val (.int p3), .val (.int p4), .val (.int p5), .val (.int (3 : Int32)), .val (.ref b1), .val (.ref b4), .val (.ref b8), .val (.ref b12), .val (.ref b17), .val (.ref b22), .val (.ref b27), .val (.int (1 : Int32))] [(.int (0 : Int32))]))
    refine own_iload X187 hx (hb hby at_243) rfl rfl ?_
    refine own_ifT X187 hx (hb hby at_245) (by decide) rfl (by decide) ?_
    refine own_iconst X187 hx (0 : Int32) (hb hby at_252) (by decide) rfl ?_
    refine own_icmpF X187 hx (hb hby at_253) rfl (by decide) ?_
    refine own_iconst X187 hx (1 : Int32) (hb hby at_256) (by decide) rfl ?_
    refine own_goto X187 hx (hb hby at_257) (by decide) rfl ?_
    refine own_istore X187 hx #[.val (.int p1), .val (.int p2), .val (.int p3), .val (.int p4), .val (.int p5), .val (.int (3 : Int32)), .val (.ref b1), .val (.ref b4), .val (.ref b8), .val (.ref b12), .val (.ref b17), .val (.ref b22), .val (.ref b27), .val (.int (1 : Int32))] (hb hby at_261) rfl rfl ?_
    refine own_iload X187 hx (hb hby at_263) rfl rfl ?_
    refine own_ifF X187 hx (hb hby at_265) rfl (by decide) ?_
    refine own_aload X187 hx (hb hby at_268) rfl rfl rfl ?_
    refine own_virtual X187 hx hZ (y := (⟨"com/example/ledgerleaf/ledgerleaf/Findings", "isEmpty", "()Z"⟩ : MethodName)) (z := (⟨"com/example/ledgerleaf/ledgerleaf/Findings", "isEmpty", "()Z"⟩ : MethodName)) hown (hw _ (List.mem_of_getElem? (i := 71) rfl)) (hw _ (List.mem_of_getElem? (i := 72) rfl)) (notFace_of_selects (args := #[]) (mvT hZ (hw _ (List.mem_of_getElem? (i := 74) rfl)))) (hw _ (List.mem_of_getElem? (i := 74) rfl)) (hw _ (List.mem_of_getElem? (i := 73) rfl)) (hw _ (List.mem_of_getElem? (i := 32) rfl)) (hw _ (List.mem_of_getElem? (i := 75) rfl)) (by decide) hh187 (by decide) (W := 0) (by decide) (by decide) (by decide) [] [] (by rw [hml]; rfl) Ef185 (own_ise l Z a0 hw b27 (3 : Int64) T185.heap n0 Cf185) own_pd10 rfl rfl rfl (hb hby at_270) rfl ?_
    intro v188 T188 L188 X188 hQ188
    obtain ⟨rfl, Nq188, hh188⟩ := hQ188
    have N188 := Fr.app N187 Nq188
    rw [show (if (lcmpW (3 : Int64) (0 : Int64)) = (0 : Int32) then (1 : Int32) else 0) = (0 : Int32) from by decide]
    show own_Ends p e below _ (T188.setTop (mkF m 273 #[.val (.int p1), .val (.int p2), .val (.int p3), .val (.int p4), .val (.int p5), .val (.int (3 : Int32)), .val (.ref b1), .val (.ref b4), .val (.ref b8), .val (.ref b12), .val (.ref b17), .val (.ref b22), .val (.ref b27), .val (.int (1 : Int32))] [(.int (0 : Int32))]))
    refine own_aload X188 hx (hb hby at_273) rfl rfl rfl ?_
    refine own_virtual X188 hx hZ (y := (⟨"com/example/ledgerleaf/ledgerleaf/Findings", "size", "()J"⟩ : MethodName)) (z := (⟨"com/example/ledgerleaf/ledgerleaf/Findings", "size", "()J"⟩ : MethodName)) hown (hw _ (List.mem_of_getElem? (i := 78) rfl)) (hw _ (List.mem_of_getElem? (i := 79) rfl)) (notFace_of_selects (args := #[]) (mvT hZ (hw _ (List.mem_of_getElem? (i := 81) rfl)))) (hw _ (List.mem_of_getElem? (i := 81) rfl)) (hw _ (List.mem_of_getElem? (i := 80) rfl)) (hw _ (List.mem_of_getElem? (i := 32) rfl)) (hw _ (List.mem_of_getElem? (i := 82) rfl)) (by decide) hh188 (by decide) (W := 1) (by decide) (by decide) (by decide) [] [(.int (0 : Int32))] (by rw [hml]; rfl) Ef185 (own_fsz l Z a0 hw b27 (3 : Int64) T185.heap n0 Cf185) own_pd13 rfl rfl rfl (hb hby at_275) rfl ?_
    intro v189 T189 L189 X189 hQ189
    obtain ⟨rfl, Nq189, hh189⟩ := hQ189
    have N189 := Fr.app N188 Nq189
    show own_Ends p e below _ (T189.setTop (mkF m 278 #[.val (.int p1), .val (.int p2), .val (.int p3), .val (.int p4), .val (.int p5), .val (.int (3 : Int32)), .val (.ref b1), .val (.ref b4), .val (.ref b8), .val (.ref b12), .val (.ref b17), .val (.ref b22), .val (.ref b27), .val (.int (1 : Int32))] [(.long (3 : Int64)), (.int (0 : Int32))]))
    refine own_lconst X189 hx (0 : Int64) (hb hby at_278) (by decide) rfl ?_
    refine own_lcmp X189 hx (hb hby at_279) rfl ?_
    rw [show (lcmpW (3 : Int64) (0 : Int64)) = (1 : Int32) from by decide]
    refine own_ifT X189 hx (hb hby at_280) (by decide) rfl (by decide) ?_
    refine own_iconst X189 hx (0 : Int32) (hb hby at_287) (by decide) rfl ?_
    refine own_icmpF X189 hx (hb hby at_288) rfl (by decide) ?_
    refine own_iconst X189 hx (1 : Int32) (hb hby at_291) (by decide) rfl ?_
    refine own_goto X189 hx (hb hby at_292) (by decide) rfl ?_
    refine own_istore X189 hx #[.val (.int p1), .val (.int p2), .val (.int p3), .val (.int p4), .val (.int p5), .val (.int (3 : Int32)), .val (.ref b1), .val (.ref b4), .val (.ref b8), .val (.ref b12), .val (.ref b17), .val (.ref b22), .val (.ref b27), .val (.int (1 : Int32))] (hb hby at_296) rfl rfl ?_
    refine own_aload X189 hx (hb hby at_298) rfl rfl rfl ?_
    have f190 := (f168.keep Kq185 (allS g_b27 (allS g_lb (allS g_b141 all0))))
    have f191 := (((((((((Elr.ext E122).keep Kq124).keep Kq141).ext E143).keep Kq145).keep Kq163).ext E165).keep Kq167).keep Kq185)
    have f192 := (((((((((Mlr.ext E122).keep Kq124 (ninS (Nat.ne_of_lt (Nat.lt_of_lt_of_le Elr.lt (Nat.le_of_eq g122.symm))) nin0)).keep Kq141 (ninS (ne_exa Elr Ef0 (by decide)) (ninS (Ne.symm hne) nin0))).ext E143).keep Kq145 (ninS (Nat.ne_of_lt (Nat.lt_of_lt_of_le (((Elr.ext E122).keep Kq124).keep Kq141).lt (Nat.le_of_eq g143.symm))) nin0)).keep Kq163 (ninS (ne_exa Elr Ef0 (by decide)) (ninS (Ne.symm hne) (ninS (Exa.neArv (((Elr.ext E122).keep Kq124).keep Kq141) V141 (hw _ (List.mem_of_getElem? (i := 38) rfl))) nin0)))).ext E165).keep Kq167 (ninS (Nat.ne_of_lt (Nat.lt_of_lt_of_le ((((((Elr.ext E122).keep Kq124).keep Kq141).ext E143).keep Kq145).keep Kq163).lt (Nat.le_of_eq g165.symm))) nin0)).keep Kq185 (ninS (ne_exa Elr Ef0 (by decide)) (ninS (Ne.symm hne) (ninS (Exa.neArv (((Elr.ext E122).keep Kq124).keep Kq141) V141 (hw _ (List.mem_of_getElem? (i := 38) rfl))) nin0))))
    have f193 := (((((((((Dlr.ext E122).keep Kq124 (ninS (Nat.ne_of_lt (Nat.lt_of_lt_of_le Elr.lt (Nat.le_of_eq g122.symm))) nin0)).keep Kq141 (ninS (ne_exa Elr Ef0 (by decide)) (ninS (Ne.symm hne) nin0))).ext E143).keep Kq145 (ninS (Nat.ne_of_lt (Nat.lt_of_lt_of_le (((Elr.ext E122).keep Kq124).keep Kq141).lt (Nat.le_of_eq g143.symm))) nin0)).keep Kq163 (ninS (ne_exa Elr Ef0 (by decide)) (ninS (Ne.symm hne) (ninS (Exa.neArv (((Elr.ext E122).keep Kq124).keep Kq141) V141 (hw _ (List.mem_of_getElem? (i := 38) rfl))) nin0)))).ext E165).keep Kq167 (ninS (Nat.ne_of_lt (Nat.lt_of_lt_of_le ((((((Elr.ext E122).keep Kq124).keep Kq141).ext E143).keep Kq145).keep Kq163).lt (Nat.le_of_eq g165.symm))) nin0)).keep Kq185 (ninS (ne_exa Elr Ef0 (by decide)) (ninS (Ne.symm hne) (ninS (Exa.neArv (((Elr.ext E122).keep Kq124).keep Kq141) V141 (hw _ (List.mem_of_getElem? (i := 38) rfl))) nin0))))
    have f194 := (((((((((Slr.ext E122).keep Kq124 (ninS (Nat.ne_of_lt (Nat.lt_of_lt_of_le Elr.lt (Nat.le_of_eq g122.symm))) nin0)).keep Kq141 (ninS (ne_exa Elr Ef0 (by decide)) (ninS (Ne.symm hne) nin0))).ext E143).keep Kq145 (ninS (Nat.ne_of_lt (Nat.lt_of_lt_of_le (((Elr.ext E122).keep Kq124).keep Kq141).lt (Nat.le_of_eq g143.symm))) nin0)).keep Kq163 (ninS (ne_exa Elr Ef0 (by decide)) (ninS (Ne.symm hne) (ninS (Exa.neArv (((Elr.ext E122).keep Kq124).keep Kq141) V141 (hw _ (List.mem_of_getElem? (i := 38) rfl))) nin0)))).ext E165).keep Kq167 (ninS (Nat.ne_of_lt (Nat.lt_of_lt_of_le ((((((Elr.ext E122).keep Kq124).keep Kq141).ext E143).keep Kq145).keep Kq163).lt (Nat.le_of_eq g165.symm))) nin0)).keep Kq185 (ninS (ne_exa Elr Ef0 (by decide)) (ninS (Ne.symm hne) (ninS (Exa.neArv (((Elr.ext E122).keep Kq124).keep Kq141) V141 (hw _ (List.mem_of_getElem? (i := 38) rfl))) nin0))))
    refine own_virtual X189 hx hZ (y := (⟨"com/example/ledgerleaf/ledgerleaf/Findings", "close", "()V"⟩ : MethodName)) (z := (⟨"com/example/ledgerleaf/ledgerleaf/Findings", "close", "()V"⟩ : MethodName)) hown (hw _ (List.mem_of_getElem? (i := 83) rfl)) (hw _ (List.mem_of_getElem? (i := 84) rfl)) (notFace_of_selects (args := #[]) (mvT hZ (hw _ (List.mem_of_getElem? (i := 86) rfl)))) (hw _ (List.mem_of_getElem? (i := 86) rfl)) (hw _ (List.mem_of_getElem? (i := 85) rfl)) (hw _ (List.mem_of_getElem? (i := 32) rfl)) (hw _ (List.mem_of_getElem? (i := 87) rfl)) (by decide) hh189 (by decide) (W := 0) (by decide) (by decide) (by decide) [] [] (by rw [hml]; rfl) Ef185 (own_close_3 l Z a0 hw b27 lb lr de b141 b122 b143 b165 kd k141 ((((0 : Int32) + (1 : Int32)) + (1 : Int32)) + (1 : Int32)) (0 : Int32) T185.heap n0 f190 SD VD g_b27 g_lb g_lr g_b141 hne ⟨Ef185, Bf185, Rf185, Nf185, Sf185, Cf185, Lf185⟩ ⟨El185, Ml185, Dl185, Sl185⟩ ⟨f191, f192, f193, f194⟩ V185) own_pd0 rfl rfl rfl (hb hby at_300) rfl ?_
    intro v195 T195 L195 X195 hQ195
    obtain ⟨rfl, Nq195, Kq195, Ef195, Cf195⟩ := hQ195
    have N195 := Fr.app N189 Nq195
    show own_Ends p e below _ (T195.setTop (mkF m 303 #[.val (.int p1), .val (.int p2), .val (.int p3), .val (.int p4), .val (.int p5), .val (.int (3 : Int32)), .val (.ref b1), .val (.ref b4), .val (.ref b8), .val (.ref b12), .val (.ref b17), .val (.ref b22), .val (.ref b27), .val (.int (1 : Int32))] []))
    refine own_iload X195 hx (hb hby at_303) rfl rfl ?_
    refine own_ifF X195 hx (hb hby at_305) rfl (by decide) ?_
    refine own_aload X195 hx (hb hby at_308) rfl rfl rfl ?_
    refine own_virtual X195 hx hZ (y := (⟨"com/example/ledgerleaf/ledgerleaf/Findings", "isEmpty", "()Z"⟩ : MethodName)) (z := (⟨"com/example/ledgerleaf/ledgerleaf/Findings", "isEmpty", "()Z"⟩ : MethodName)) hown (hw _ (List.mem_of_getElem? (i := 71) rfl)) (hw _ (List.mem_of_getElem? (i := 72) rfl)) (notFace_of_selects (args := #[]) (mvT hZ (hw _ (List.mem_of_getElem? (i := 74) rfl)))) (hw _ (List.mem_of_getElem? (i := 74) rfl)) (hw _ (List.mem_of_getElem? (i := 73) rfl)) (hw _ (List.mem_of_getElem? (i := 32) rfl)) (hw _ (List.mem_of_getElem? (i := 75) rfl)) (by decide) rfl (by decide) (W := 0) (by decide) (by decide) (by decide) [] [] (by rw [hml]; rfl) Ef195 (own_ise l Z a0 hw b27 (0 : Int64) T195.heap n0 Cf195) own_pd10 rfl rfl rfl (hb hby at_310) rfl ?_
    intro v196 T196 L196 X196 hQ196
    obtain ⟨rfl, Nq196, hh196⟩ := hQ196
    have N196 := Fr.app N195 Nq196
    rw [show (if (lcmpW (0 : Int64) (0 : Int64)) = (0 : Int32) then (1 : Int32) else 0) = (1 : Int32) from by decide]
    show own_Ends p e below _ (T196.setTop (mkF m 313 #[.val (.int p1), .val (.int p2), .val (.int p3), .val (.int p4), .val (.int p5), .val (.int (3 : Int32)), .val (.ref b1), .val (.ref b4), .val (.ref b8), .val (.ref b12), .val (.ref b17), .val (.ref b22), .val (.ref b27), .val (.int (1 : Int32))] [(.int (1 : Int32))]))
    refine own_ifF X196 hx (hb hby at_313) rfl (by decide) ?_
    refine own_iconst X196 hx (1 : Int32) (hb hby at_316) (by decide) rfl ?_
    refine own_goto X196 hx (hb hby at_317) (by decide) rfl ?_
    refine own_istore X196 hx #[.val (.int p1), .val (.int p2), .val (.int p3), .val (.int p4), .val (.int p5), .val (.int (3 : Int32)), .val (.ref b1), .val (.ref b4), .val (.ref b8), .val (.ref b12), .val (.ref b17), .val (.ref b22), .val (.ref b27), .val (.int (1 : Int32))] (hb hby at_321) rfl rfl ?_
    refine own_iload X196 hx (hb hby at_323) rfl rfl ?_
    exact own_retN X196 hx hlocks hret (by simp) (hb hby at_325) (by decide) (by decide) (by decide) ⟨rfl, N196⟩
set_option maxRecDepth 65536 in
set_option maxHeartbeats 40000000 in
theorem comes_1 {Post : Tables → Env → Array Value → State → Outcome → State → Prop} (hpost : ∀ tb e args s v u, (limb_1_1.after args s (.returned v) u = true ∧ limb_1_2.after args s (.returned v) u = true ∧ True) → FrameEnd s (.returned v) u (Jvm.fieldLocs frame_1_writes args s ++ Jvm.arrayLocs frame_1_arrays args s ++ Jvm.staticLocs frame_1_statics s) 48 192 → Post tb e args s (.returned v) u) :
    ArmFor flags0 classFile x code maxLocals ret World_1 tables_1 room_1 Calls_1 rest_1 Pre_1 Post := by
  intro l hfl _ _ p e ha hc hk s m args below hf hA hF happ hP
  obtain ⟨hcalls, hrest, hpre⟩ := hP
  obtain ⟨-, -, -, hnamed, -, -, -, hat⟩ := (Spec.applies_iff hf).mp happ
  obtain ⟨hg, hn⟩ := and_e (Cond.before_iff.mp (show (Jvm.Cond.and given_1 narrow_1).before args s = true from hpre))
  obtain ⟨k1a, k1b⟩ := and_e hg
  obtain ⟨k2a, k2b⟩ := and_e k1b
  obtain ⟨k3a, k3b⟩ := and_e k2b
  obtain ⟨k4a, k4b⟩ := and_e k3b
  obtain ⟨k5a, k5b⟩ := and_e k4b
  obtain ⟨w0, w1, w2, w3, w4, rfl⟩ : ∃ w0 w1 w2 w3 w4 : Value, args = #[w0, w1, w2, w3, w4] := by
    have hs : args.size = 5 := by simpa [Cond.value, given_1] using k1a
    obtain ⟨L⟩ := args
    match L, hs with
    | [w0, w1, w2, w3, w4], _ => exact ⟨w0, w1, w2, w3, w4, rfl⟩
  have hw := fun d (hd : d ∈ tables_1) => atoms_spec (ws := Jvm.Cond.code x code maxLocals ret :: tables_1) hat d (List.mem_cons_of_mem _ hd)
  have hfit : Fit s := fun {y c} hc i hi => by
    obtain ⟨ha, rfl⟩ := Array.getElem?_eq_some_iff.mp hc
    have q := List.all_eq_true.mp ((Array.all_eq_true_iff_forall_mem.mp hF) _ (Array.getElem_mem ha)) i (List.mem_range.mpr hi)
    simpa [Array.getElem?_eq_getElem hi] using q
  obtain ⟨hsets, hown0⟩ := atoms_of _ (rest_1_c_eq ▸ (show rest_1_c.before _ s = true from hrest))
  obtain ⟨i0, ei0⟩ := is_v k2a
  obtain rfl : w0 = (.int i0) := Option.some.inj ei0
  obtain ⟨i1, ei1⟩ := is_v k3a
  obtain rfl : w1 = (.int i1) := Option.some.inj ei1
  obtain ⟨i2, ei2⟩ := is_v k4a
  obtain rfl : w2 = (.int i2) := Option.some.inj ei2
  obtain ⟨i3, ei3⟩ := is_v k5a
  obtain rfl : w3 = (.int i3) := Option.some.inj ei3
  obtain ⟨i4, ei4⟩ := is_v k5b
  obtain rfl : w4 = (.int i4) := Option.some.inj ei4
  have nzc := not_v (Cond.before_iff.mp (hsets _ (List.mem_of_getElem? (i := 2) rfl)))
  obtain ⟨zc, ezc⟩ := is_v (Cond.before_iff.mp (hsets _ (List.mem_of_getElem? (i := 1) rfl)))
  have SC := Sta.start ezc (Or.inl (hsets _ (List.mem_of_getElem? (i := 0) rfl)))
  have hzc : ¬ (zc = (0 : Int32)) := gotF (Cond.eq_ints ezc (Term.int_eval (0))) nzc
  obtain ⟨de, ede⟩ := arr_v (Cond.before_iff.mp (hsets _ (List.mem_of_getElem? (i := 15) rfl)))
  have SD := Sta.start ede (Or.inr ⟨(hw _ (List.mem_of_getElem? (i := 39) rfl)), (hsets _ (List.mem_of_getElem? (i := 11) rfl))⟩)
  obtain ⟨kd, VD⟩ := own_arr0 hfit ede (Cond.before_iff.mp (hsets _ (List.mem_of_getElem? (i := 15) rfl))) (Cond.before_iff.mp (hsets _ (List.mem_of_getElem? (i := 17) rfl)))
  obtain ⟨n, o, h1, h2, h3, _, L, rfl, ⟨rfl, N⟩, hq⟩ := own_law l s _ hw i0 i1 i2 i3 i4 zc de kd s.heap s.heap.size (Old.start s) SC hzc SD VD tables_1 p e ha hc hk s m _ below hf ((Spec.applies_iff_loose hf).mp happ).1 ⟨rfl, State.Warmed39.refl s, rfl⟩ trivial
  refine ⟨n, _, h1, h2, h3, hpost _ _ _ _ _ _ ⟨Cond.after_iff.mpr rfl, Cond.after_iff.mpr (eq_i res_at (Term.int_eval (1)) rfl), trivial⟩ ⟨hq.1, hq.2.1, (hq.2.2.sift fun y hy => Or.inr (N y hy)).mono (by decide) (by decide)⟩⟩
theorem main_1_1 : Claimed_1_1 := comes_1 fun _ _ _ _ _ _ h hF => ⟨h.1, hF⟩
theorem main_1_2 : Claimed_1_2 := comes_1 fun _ _ _ _ _ _ h hF => ⟨h.2.1, hF⟩
end Jvm.Pilot.@@N@@
namespace Jvm.Pilot.@@N@@
open Jvm Jvm.ClassFile Sem Op Lib Jvm.Free Jvm.Stand Jvm.Pilot.@@N@@.Jvm.D
/-! MADE BY PROGRAM (witnessworld.py) out of the Statement's table words and the real class files: 35 classes; the members and pool entries that the words name. The judged class is class 1, her method 1. -/
namespace start1
open Jvm.ClassFile
def u (s : String) : CpInfo := .utf8 (stringToUtf16 s)
/-- a pool by its gaps: so many unusable entries, then the entry; so many at the end -/
def gap : Nat → List CpInfo → List CpInfo
  | 0, r => r
  | n + 1, r => .unusable :: gap n r
def poolList (es : List (Nat × CpInfo)) (last : Nat) : List CpInfo := es.foldr (fun e r => gap e.1 (e.2 :: r)) (gap last [])
def pool (es : List (Nat × CpInfo)) (last : Nat) : Array CpInfo := ⟨poolList es last⟩
def fileOf (pool : Array CpInfo) (this : Nat) (attrs : Array Attribute := #[]) (ms : Array MethodInfo := #[]) (fl : Nat := 33) (sup : Nat := 0) (ifs : Array Nat := #[]) (fds : Array FieldInfo := #[]) : ClassFile where
  minorVersion := 0
  majorVersion := 65
  constantPool := pool
  accessFlags := fl
  thisClass := this
  superClass := sup
  interfaces := ifs
  fields := fds
  methods := ms
  attributes := attrs
def plain (name : String) (sup : Option ClassId) : Class where
  name := name
  kind := .ordinary
  loader := none
  accessFlags := 33
  super := sup
  interfaces := #[]
  cf := none
  fields := #[]
  methods := #[]
  instanceTypes := #[]
  staticTypes := #[]
  resolved := #[]
  callSites := []
  init := .initialized
  statics := none
  mirror := none

def pool0 : Array CpInfo := pool [(5, u "<init>"), (0, u "()V"), (1, .class_ 10), (1, u "java/lang/Object")] 113

def k0c0 : Code := { maxStack := 0, maxLocals := 1, code := object_method_1_code, exceptionTable := #[], attributes := #[] }
def k0m0 : Method := { name := "<init>", desc := "()V", sig := { parameters := [], returnType := none }, accessFlags := 1, code := some k0c0 }
/-- java/lang/Object -/
def k0 : Class := { plain "java/lang/Object" none with
  accessFlags := 33
  interfaces := #[]
  cf := some (fileOf pool0 8 #[] #[{ accessFlags := 1, nameIndex := 5, descriptorIndex := 6, attributes := #[] }] 33 0 #[] #[])
  fields := #[]
  methods := #[k0m0]
  instanceTypes := #[]
  staticTypes := #[]
  resolved := Array.replicate 124 none
  statics := none }

def pool1 : Array CpInfo := pool [(2, .class_ 4), (1, u "java/lang/Object"), (0, u "<init>"), (0, u "()V"), (0, .class_ 8), (0, u "java/lang/String"), (0, .methodref 7 10), (0, .nameAndType 5 11), (0, u "([C)V"), (0, .class_ 13), (0, u "com/example/ledgerleaf/ledgerleaf/Findings"), (0, .methodref 12 15), (0, .nameAndType 5 16), (0, u "(II)V"), (0, .methodref 12 18), (0, .nameAndType 19 20), (0, u "isEmpty"), (0, u "()Z"), (0, .class_ 22), (0, u "com/example/ledgerleaf/ledgerleaf/Finding"), (0, .methodref 21 24), (0, .nameAndType 5 25), (0, u "(ILjava/lang/String;)V"), (0, .methodref 12 27), (0, .nameAndType 28 29), (0, u "add"), (0, u "(Lcom/example/ledgerleaf/ledgerleaf/Finding;)V"), (0, .methodref 12 31), (0, .nameAndType 32 33), (0, u "size"), (0, u "()J"), (0, .methodref 12 35), (0, .nameAndType 36 6), (0, u "close"), (0, .class_ 38), (0, u "com/example/ledgerleaf/ledgerleaf/FindingsIsEmptyPinLaw"), (2, u "law"), (0, u "(IIIII)Z")] 5

def k1m0 : Method := { name := "<init>", desc := "()V", sig := { parameters := [], returnType := none }, accessFlags := 1, code := none }
def k1c1 : Code := { maxStack := 5, maxLocals := 14, code := code, exceptionTable := #[], attributes := #[] }
def k1m1 : Method := { name := "law", desc := "(IIIII)Z", sig := { parameters := [.int, .int, .int, .int, .int], returnType := some .boolean }, accessFlags := 9, code := some k1c1 }
/-- com/example/ledgerleaf/ledgerleaf/FindingsIsEmptyPinLaw -/
def k1 : Class := { plain "com/example/ledgerleaf/ledgerleaf/FindingsIsEmptyPinLaw" (some 0) with
  accessFlags := 49
  interfaces := #[]
  cf := some (fileOf pool1 37 #[] #[{ accessFlags := 1, nameIndex := 5, descriptorIndex := 6, attributes := #[] }, { accessFlags := 9, nameIndex := 41, descriptorIndex := 42, attributes := #[] }] 49 2 #[] #[])
  fields := #[]
  methods := #[k1m0, k1m1]
  instanceTypes := #[]
  staticTypes := #[]
  resolved := Array.replicate 48 none
  statics := none }

def pool2 : Array CpInfo := pool [(1, .class_ 2), (0, u "java/io/Serializable"), (0, .class_ 4), (0, u "java/lang/Object")] 2

/-- java/io/Serializable -/
def k2 : Class := { plain "java/io/Serializable" (some 0) with
  accessFlags := 1537
  interfaces := #[]
  cf := some (fileOf pool2 1 #[] #[] 1537 3 #[] #[])
  fields := #[]
  methods := #[]
  instanceTypes := #[]
  staticTypes := #[]
  resolved := Array.replicate 7 none
  statics := none }

def pool3 : Array CpInfo := pool [(1, .class_ 2), (0, u "java/lang/Comparable"), (0, .class_ 4), (0, u "java/lang/Object")] 7

/-- java/lang/Comparable -/
def k3 : Class := { plain "java/lang/Comparable" (some 0) with
  accessFlags := 1537
  interfaces := #[]
  cf := some (fileOf pool3 1 #[] #[] 1537 3 #[] #[])
  fields := #[]
  methods := #[]
  instanceTypes := #[]
  staticTypes := #[]
  resolved := Array.replicate 12 none
  statics := none }

def pool4 : Array CpInfo := pool [(2, .class_ 4), (1, u "java/lang/CharSequence"), (42, .class_ 48), (0, u "java/lang/CharSequence$1CodePointIterator"), (10, .class_ 60), (0, u "java/lang/CharSequence$1CharIterator"), (5, .class_ 67), (0, u "java/lang/Object")] 63

/-- java/lang/CharSequence -/
def k4 : Class := { plain "java/lang/CharSequence" (some 0) with
  accessFlags := 1537
  interfaces := #[]
  cf := some (fileOf pool4 2 #[.nestMembers #[47, 59]] #[] 1537 66 #[] #[])
  fields := #[]
  methods := #[]
  instanceTypes := #[]
  staticTypes := #[]
  resolved := Array.replicate 131 none
  statics := none }

def pool5 : Array CpInfo := pool [(1, .class_ 2), (0, u "java/lang/constant/Constable"), (0, .class_ 4), (0, u "java/lang/Object")] 6

/-- java/lang/constant/Constable -/
def k5 : Class := { plain "java/lang/constant/Constable" (some 0) with
  accessFlags := 1537
  interfaces := #[]
  cf := some (fileOf pool5 1 #[] #[] 1537 3 #[] #[])
  fields := #[]
  methods := #[]
  instanceTypes := #[]
  staticTypes := #[]
  resolved := Array.replicate 11 none
  statics := none }

def pool6 : Array CpInfo := pool [(1, .class_ 2), (0, u "java/lang/constant/ConstantDesc"), (0, .class_ 4), (0, u "java/lang/Object")] 32

/-- java/lang/constant/ConstantDesc -/
def k6 : Class := { plain "java/lang/constant/ConstantDesc" (some 0) with
  accessFlags := 1537
  interfaces := #[]
  cf := some (fileOf pool6 1 #[] #[] 1537 3 #[] #[])
  fields := #[]
  methods := #[]
  instanceTypes := #[]
  staticTypes := #[]
  resolved := Array.replicate 37 none
  statics := none }

def pool7 : Array CpInfo := pool [(1, .methodref 2 3), (0, .class_ 4), (0, .nameAndType 5 6), (0, u "java/lang/Object"), (0, u "<init>"), (0, u "()V"), (2, .fieldref 10 11), (0, .class_ 12), (0, .nameAndType 13 14), (0, u "java/lang/String"), (0, u "value"), (0, u "[B"), (0, .fieldref 10 16), (0, .nameAndType 17 18), (0, u "coder"), (0, u "B"), (2, u "hash"), (0, u "I"), (2, u "hashIsZero"), (0, u "Z"), (0, .methodref 10 28), (0, .nameAndType 5 29), (0, u "([CIILjava/lang/Void;)V"), (8, .fieldref 10 39), (0, .nameAndType 40 26), (0, u "COMPACT_STRINGS"), (1, .class_ 44), (1, u "java/lang/StringUTF16"), (0, u "compress"), (1, .methodref 42 48), (0, .nameAndType 49 50), (0, u "coderFromArrayLen"), (0, u "([BI)B"), (126, .methodref 42 178), (0, .nameAndType 45 179), (0, u "([CII)[B"), (154, u "()I"), (0, .methodref 10 336), (0, .nameAndType 17 337), (0, u "()B"), (169, u "length"), (67, .class_ 576), (0, u "java/lang/CharSequence"), (22, u "CASE_INSENSITIVE_ORDER"), (0, u "Ljava/util/Comparator;"), (409, u "([C)V"), (90, u "serialPersistentFields"), (0, u "[Ljava/io/ObjectStreamField;"), (0, .class_ 1104), (0, u "java/lang/String$CaseInsensitiveComparator"), (1, .class_ 1107), (0, u "java/io/Serializable"), (0, .class_ 1109), (0, u "java/lang/Comparable"), (0, .class_ 1111), (0, u "java/lang/constant/Constable"), (0, .class_ 1113), (0, u "java/lang/constant/ConstantDesc"), (2, u "serialVersionUID"), (0, u "J"), (3, u "REPL"), (0, u "C"), (2, u "LATIN1"), (1, u "UTF16")] 323

def k7m0 : Method := { name := "<init>", desc := "()V", sig := { parameters := [], returnType := none }, accessFlags := 1, code := none }
def k7c1 : Code := { maxStack := 5, maxLocals := 2, code := jdk_42_method_3_code, exceptionTable := #[], attributes := #[] }
def k7m1 : Method := { name := "<init>", desc := "([C)V", sig := { parameters := [(.array .char)], returnType := none }, accessFlags := 1, code := some k7c1 }
def k7c2 : Code := { maxStack := 2, maxLocals := 1, code := jdk_42_method_54_code, exceptionTable := #[], attributes := #[] }
def k7m2 : Method := { name := "length", desc := "()I", sig := { parameters := [], returnType := some .int }, accessFlags := 1, code := some k7c2 }
def k7c3 : Code := { maxStack := 4, maxLocals := 6, code := jdk_42_method_149_code, exceptionTable := #[], attributes := #[] }
def k7m3 : Method := { name := "<init>", desc := "([CIILjava/lang/Void;)V", sig := { parameters := [(.array .char), .int, .int, (.object "java/lang/Void")], returnType := none }, accessFlags := 2, code := some k7c3 }
def k7c4 : Code := { maxStack := 1, maxLocals := 1, code := jdk_42_method_152_code, exceptionTable := #[], attributes := #[] }
def k7m4 : Method := { name := "coder", desc := "()B", sig := { parameters := [], returnType := some .byte }, accessFlags := 0, code := some k7c4 }
/-- java/lang/String -/
def k7 : Class := { plain "java/lang/String" (some 0) with
  accessFlags := 49
  interfaces := #[2, 3, 4, 5, 6]
  cf := some (fileOf pool7 10 #[.nestMembers #[1103]] #[{ accessFlags := 1, nameIndex := 5, descriptorIndex := 6, attributes := #[] }, { accessFlags := 1, nameIndex := 5, descriptorIndex := 1010, attributes := #[] }, { accessFlags := 1, nameIndex := 507, descriptorIndex := 334, attributes := #[] }, { accessFlags := 2, nameIndex := 5, descriptorIndex := 29, attributes := #[] }, { accessFlags := 0, nameIndex := 17, descriptorIndex := 337, attributes := #[] }] 49 2 #[1106, 1108, 575, 1110, 1112] #[{ accessFlags := 18, nameIndex := 13, descriptorIndex := 14, attributes := #[] }, { accessFlags := 18, nameIndex := 17, descriptorIndex := 18, attributes := #[] }, { accessFlags := 2, nameIndex := 21, descriptorIndex := 22, attributes := #[] }, { accessFlags := 2, nameIndex := 25, descriptorIndex := 26, attributes := #[] }, { accessFlags := 26, nameIndex := 1116, descriptorIndex := 1117, attributes := #[] }, { accessFlags := 24, nameIndex := 40, descriptorIndex := 26, attributes := #[] }, { accessFlags := 26, nameIndex := 1101, descriptorIndex := 1102, attributes := #[] }, { accessFlags := 26, nameIndex := 1121, descriptorIndex := 1122, attributes := #[] }, { accessFlags := 25, nameIndex := 599, descriptorIndex := 600, attributes := #[] }, { accessFlags := 24, nameIndex := 1125, descriptorIndex := 18, attributes := #[] }, { accessFlags := 24, nameIndex := 1127, descriptorIndex := 18, attributes := #[] }])
  fields := #[{ name := "value", type := (.array .byte), accessFlags := 18, slot := 0, constantValue := 0 }, { name := "coder", type := .byte, accessFlags := 18, slot := 1, constantValue := 0 }, { name := "hash", type := .int, accessFlags := 2, slot := 2, constantValue := 0 }, { name := "hashIsZero", type := .boolean, accessFlags := 2, slot := 3, constantValue := 0 }, { name := "serialVersionUID", type := .long, accessFlags := 26, slot := 0, constantValue := 0 }, { name := "COMPACT_STRINGS", type := .boolean, accessFlags := 24, slot := 1, constantValue := 0 }, { name := "serialPersistentFields", type := (.array (.object "java/io/ObjectStreamField")), accessFlags := 26, slot := 2, constantValue := 0 }, { name := "REPL", type := .char, accessFlags := 26, slot := 3, constantValue := 0 }, { name := "CASE_INSENSITIVE_ORDER", type := (.object "java/util/Comparator"), accessFlags := 25, slot := 4, constantValue := 0 }, { name := "LATIN1", type := .byte, accessFlags := 24, slot := 5, constantValue := 0 }, { name := "UTF16", type := .byte, accessFlags := 24, slot := 6, constantValue := 0 }]
  methods := #[k7m0, k7m1, k7m2, k7m3, k7m4]
  instanceTypes := #[(.array .byte), .byte, .int, .boolean]
  staticTypes := #[.long, .boolean, (.array (.object "java/io/ObjectStreamField")), .char, (.object "java/util/Comparator"), .byte, .byte]
  resolved := Array.replicate 1451 none
  statics := some 0 }

def pool8 : Array CpInfo := pool [(6, .class_ 8), (1, u "java/lang/Object"), (0, u "<init>"), (0, u "()V"), (1, .class_ 14), (1, u "java/lang/StringUTF16"), (31, u "$assertionsDisabled"), (0, u "Z"), (13, u "HI_BYTE_SHIFT"), (0, u "I"), (2, u "LO_BYTE_SHIFT"), (49, .methodref 12 116), (0, .nameAndType 117 118), (0, u "compress"), (0, u "([CI[BII)I"), (3, u "([CII)[B"), (138, u "coderFromArrayLen"), (0, u "([BI)B"), (106, .class_ 371), (1, u "java/lang/StringUTF16$LinesSpliterator"), (58, u "MAX_LENGTH"), (196, .class_ 628), (0, u "java/lang/StringUTF16$CodePointsSpliterator"), (0, .class_ 630), (0, u "java/lang/StringUTF16$CharsSpliterator")] 4

def k8m0 : Method := { name := "<init>", desc := "()V", sig := { parameters := [], returnType := none }, accessFlags := 0, code := none }
def k8c1 : Code := { maxStack := 2, maxLocals := 2, code := jdk_52_method_15_code, exceptionTable := #[], attributes := #[] }
def k8m1 : Method := { name := "coderFromArrayLen", desc := "([BI)B", sig := { parameters := [(.array .byte), .int], returnType := some .byte }, accessFlags := 8, code := some k8c1 }
def k8c2 : Code := { maxStack := 5, maxLocals := 6, code := jdk_52_method_16_code, exceptionTable := #[], attributes := #[] }
def k8m2 : Method := { name := "compress", desc := "([CII)[B", sig := { parameters := [(.array .char), .int, .int], returnType := some (.array .byte) }, accessFlags := 9, code := some k8c2 }
def k8c3 : Code := { maxStack := 3, maxLocals := 7, code := jdk_52_method_21_code, exceptionTable := #[], attributes := #[] }
def k8m3 : Method := { name := "compress", desc := "([CI[BII)I", sig := { parameters := [(.array .char), .int, (.array .byte), .int, .int], returnType := some .int }, accessFlags := 9, code := some k8c3 }
/-- java/lang/StringUTF16 -/
def k8 : Class := { plain "java/lang/StringUTF16" (some 0) with
  accessFlags := 48
  interfaces := #[]
  cf := some (fileOf pool8 12 #[.nestMembers #[627, 629, 369]] #[{ accessFlags := 0, nameIndex := 9, descriptorIndex := 10, attributes := #[] }, { accessFlags := 8, nameIndex := 261, descriptorIndex := 262, attributes := #[] }, { accessFlags := 9, nameIndex := 117, descriptorIndex := 122, attributes := #[] }, { accessFlags := 9, nameIndex := 117, descriptorIndex := 118, attributes := #[] }] 48 6 #[] #[{ accessFlags := 26, nameIndex := 61, descriptorIndex := 62, attributes := #[] }, { accessFlags := 26, nameIndex := 65, descriptorIndex := 62, attributes := #[] }, { accessFlags := 24, nameIndex := 430, descriptorIndex := 62, attributes := #[] }, { accessFlags := 4120, nameIndex := 46, descriptorIndex := 47, attributes := #[] }])
  fields := #[{ name := "HI_BYTE_SHIFT", type := .int, accessFlags := 26, slot := 0, constantValue := 0 }, { name := "LO_BYTE_SHIFT", type := .int, accessFlags := 26, slot := 1, constantValue := 0 }, { name := "MAX_LENGTH", type := .int, accessFlags := 24, slot := 2, constantValue := 0 }, { name := "$assertionsDisabled", type := .boolean, accessFlags := 4120, slot := 3, constantValue := 0 }]
  methods := #[k8m0, k8m1, k8m2, k8m3]
  instanceTypes := #[]
  staticTypes := #[.int, .int, .int, .boolean]
  resolved := Array.replicate 635 none
  statics := none }

def pool9 : Array CpInfo := pool [(8, .class_ 10), (1, u "java/lang/Iterable"), (24, .class_ 36), (0, u "java/lang/Object")] 25

/-- java/lang/Iterable -/
def k9 : Class := { plain "java/lang/Iterable" (some 0) with
  accessFlags := 1537
  interfaces := #[]
  cf := some (fileOf pool9 8 #[] #[] 1537 35 #[] #[])
  fields := #[]
  methods := #[]
  instanceTypes := #[]
  staticTypes := #[]
  resolved := Array.replicate 62 none
  statics := none }

def pool10 : Array CpInfo := pool [(1, .class_ 2), (0, u "java/lang/AutoCloseable"), (0, .class_ 4), (0, u "java/lang/Object")] 7

/-- java/lang/AutoCloseable -/
def k10 : Class := { plain "java/lang/AutoCloseable" (some 0) with
  accessFlags := 1537
  interfaces := #[]
  cf := some (fileOf pool10 1 #[] #[] 1537 3 #[] #[])
  fields := #[]
  methods := #[]
  instanceTypes := #[]
  staticTypes := #[]
  resolved := Array.replicate 12 none
  statics := none }

def pool11 : Array CpInfo := pool [(1, .class_ 2), (0, u "com/example/ledgerleaf/ledgerleaf/Findings"), (2, u "<init>"), (0, u "(II)V"), (0, .methodref 8 9), (0, .class_ 10), (0, .nameAndType 5 11), (0, u "java/lang/Object"), (0, u "()V"), (0, .class_ 13), (0, u "java/util/ArrayList"), (0, .methodref 12 9), (0, .fieldref 1 16), (0, .nameAndType 17 18), (0, u "m_aBatch"), (0, u "Ljava/util/List;"), (0, .fieldref 1 20), (0, .nameAndType 21 22), (0, u "m_bSorted"), (0, u "Z"), (0, .fieldref 1 24), (0, .nameAndType 25 18), (0, u "m_aRuns"), (0, .fieldref 1 27), (0, .nameAndType 28 29), (0, u "m_nBatch"), (0, u "I"), (0, .fieldref 1 31), (0, .nameAndType 32 29), (0, u "m_nFanIn"), (0, .interfaceMethodref 34 35), (0, .class_ 36), (0, .nameAndType 37 38), (0, u "java/util/List"), (0, u "add"), (0, u "(Ljava/lang/Object;)Z"), (0, .fieldref 1 40), (0, .nameAndType 41 42), (0, u "m_nCount"), (0, u "J"), (0, .fieldref 1 44), (0, .nameAndType 45 42), (0, u "m_nBatchLength"), (0, .methodref 47 48), (0, .class_ 49), (0, .nameAndType 50 51), (0, u "com/example/ledgerleaf/ledgerleaf/Finding"), (0, u "message"), (0, u "()Ljava/lang/String;"), (0, .methodref 53 54), (0, .class_ 55), (0, .nameAndType 56 57), (0, u "java/lang/String"), (0, u "length"), (0, u "()I"), (0, .interfaceMethodref 34 59), (0, .nameAndType 60 57), (0, u "size"), (0, .long 1048576), (5, .nameAndType 68 69), (0, u "iterator"), (0, u "()Ljava/util/Iterator;"), (1, .class_ 73), (1, u "java/util/Iterator"), (8, .class_ 83), (0, u "com/example/ledgerleaf/ledgerleaf/Findings$Unkept"), (7, .interfaceMethodref 34 67), (0, .interfaceMethodref 71 93), (0, .nameAndType 94 95), (0, u "hasNext"), (0, u "()Z"), (0, .class_ 97), (0, u "com/example/ledgerleaf/ledgerleaf/Findings$Run"), (10, .class_ 109), (0, u "com/example/ledgerleaf/ledgerleaf/Findings$Merge"), (17, u "close"), (0, .interfaceMethodref 34 129), (0, .nameAndType 130 11), (0, u "clear"), (36, u "()J"), (40, .class_ 209), (0, u "com/example/ledgerleaf/ledgerleaf/Findings$1"), (3, .class_ 214), (0, u "java/lang/Iterable"), (0, .class_ 216), (0, u "java/lang/AutoCloseable"), (0, u "BATCH"), (2, u "BATCH_LENGTH"), (1, u "FAN_IN"), (1, u "BUFFER"), (6, u "(Lcom/example/ledgerleaf/ledgerleaf/Finding;)V"), (1, u "isEmpty"), (13, .class_ 248), (0, u "com/example/ledgerleaf/ledgerleaf/Findings$Merge$Head")] 23

def k11m0 : Method := { name := "<init>", desc := "()V", sig := { parameters := [], returnType := none }, accessFlags := 0, code := none }
def k11c1 : Code := { maxStack := 3, maxLocals := 3, code := prog_40_method_2_code, exceptionTable := #[], attributes := #[] }
def k11m1 : Method := { name := "<init>", desc := "(II)V", sig := { parameters := [.int, .int], returnType := none }, accessFlags := 0, code := some k11c1 }
def k11c2 : Code := { maxStack := 5, maxLocals := 2, code := prog_40_method_3_code, exceptionTable := #[], attributes := #[] }
def k11m2 : Method := { name := "add", desc := "(Lcom/example/ledgerleaf/ledgerleaf/Finding;)V", sig := { parameters := [(.object "com/example/ledgerleaf/ledgerleaf/Finding")], returnType := none }, accessFlags := 0, code := some k11c2 }
def k11c3 : Code := { maxStack := 2, maxLocals := 1, code := prog_40_method_4_code, exceptionTable := #[], attributes := #[] }
def k11m3 : Method := { name := "size", desc := "()J", sig := { parameters := [], returnType := some .long }, accessFlags := 0, code := some k11c3 }
def k11c4 : Code := { maxStack := 4, maxLocals := 1, code := prog_40_method_5_code, exceptionTable := #[], attributes := #[] }
def k11m4 : Method := { name := "isEmpty", desc := "()Z", sig := { parameters := [], returnType := some .boolean }, accessFlags := 0, code := some k11c4 }
def k11c5 : Code := { maxStack := 3, maxLocals := 3, code := prog_40_method_8_code, exceptionTable := #[], attributes := #[] }
def k11m5 : Method := { name := "close", desc := "()V", sig := { parameters := [], returnType := none }, accessFlags := 1, code := some k11c5 }
/-- com/example/ledgerleaf/ledgerleaf/Findings -/
def k11 : Class := { plain "com/example/ledgerleaf/ledgerleaf/Findings" (some 0) with
  accessFlags := 48
  interfaces := #[9, 10]
  cf := some (fileOf pool11 1 #[.nestMembers #[108, 247, 96, 82, 208]] #[{ accessFlags := 0, nameIndex := 5, descriptorIndex := 11, attributes := #[] }, { accessFlags := 0, nameIndex := 5, descriptorIndex := 6, attributes := #[] }, { accessFlags := 0, nameIndex := 37, descriptorIndex := 231, attributes := #[] }, { accessFlags := 0, nameIndex := 60, descriptorIndex := 167, attributes := #[] }, { accessFlags := 0, nameIndex := 233, descriptorIndex := 95, attributes := #[] }, { accessFlags := 1, nameIndex := 127, descriptorIndex := 11, attributes := #[] }] 48 8 #[213, 215] #[{ accessFlags := 24, nameIndex := 217, descriptorIndex := 29, attributes := #[] }, { accessFlags := 24, nameIndex := 220, descriptorIndex := 29, attributes := #[] }, { accessFlags := 26, nameIndex := 222, descriptorIndex := 29, attributes := #[] }, { accessFlags := 26, nameIndex := 224, descriptorIndex := 29, attributes := #[] }, { accessFlags := 18, nameIndex := 28, descriptorIndex := 29, attributes := #[] }, { accessFlags := 18, nameIndex := 32, descriptorIndex := 29, attributes := #[] }, { accessFlags := 18, nameIndex := 17, descriptorIndex := 18, attributes := #[] }, { accessFlags := 2, nameIndex := 45, descriptorIndex := 42, attributes := #[] }, { accessFlags := 2, nameIndex := 21, descriptorIndex := 22, attributes := #[] }, { accessFlags := 18, nameIndex := 25, descriptorIndex := 18, attributes := #[] }, { accessFlags := 2, nameIndex := 41, descriptorIndex := 42, attributes := #[] }])
  fields := #[{ name := "BATCH", type := .int, accessFlags := 24, slot := 0, constantValue := 0 }, { name := "BATCH_LENGTH", type := .int, accessFlags := 24, slot := 1, constantValue := 0 }, { name := "FAN_IN", type := .int, accessFlags := 26, slot := 2, constantValue := 0 }, { name := "BUFFER", type := .int, accessFlags := 26, slot := 3, constantValue := 0 }, { name := "m_nBatch", type := .int, accessFlags := 18, slot := 0, constantValue := 0 }, { name := "m_nFanIn", type := .int, accessFlags := 18, slot := 1, constantValue := 0 }, { name := "m_aBatch", type := (.object "java/util/List"), accessFlags := 18, slot := 2, constantValue := 0 }, { name := "m_nBatchLength", type := .long, accessFlags := 2, slot := 3, constantValue := 0 }, { name := "m_bSorted", type := .boolean, accessFlags := 2, slot := 4, constantValue := 0 }, { name := "m_aRuns", type := (.object "java/util/List"), accessFlags := 18, slot := 5, constantValue := 0 }, { name := "m_nCount", type := .long, accessFlags := 2, slot := 6, constantValue := 0 }]
  methods := #[k11m0, k11m1, k11m2, k11m3, k11m4, k11m5]
  instanceTypes := #[.int, .int, (.object "java/util/List"), .long, .boolean, (.object "java/util/List"), .long]
  staticTypes := #[.int, .int, .int, .int]
  resolved := Array.replicate 272 none
  statics := none }

def pool12 : Array CpInfo := pool [(10, .class_ 12), (1, u "java/util/Collection"), (47, .class_ 61), (0, u "java/lang/Object"), (0, .class_ 63), (0, u "java/lang/Iterable")] 51

/-- java/util/Collection -/
def k12 : Class := { plain "java/util/Collection" (some 0) with
  accessFlags := 1537
  interfaces := #[9]
  cf := some (fileOf pool12 10 #[] #[] 1537 60 #[62] #[])
  fields := #[]
  methods := #[]
  instanceTypes := #[]
  staticTypes := #[]
  resolved := Array.replicate 115 none
  statics := none }

def pool13 : Array CpInfo := pool [(1, .methodref 2 3), (0, .class_ 4), (0, .nameAndType 5 6), (0, u "java/lang/Object"), (0, u "<init>"), (0, u "()V"), (1, .class_ 10), (1, u "java/util/AbstractCollection"), (66, .class_ 78), (0, u "java/util/Collection")] 81

def k13c0 : Code := { maxStack := 1, maxLocals := 1, code := jdk_22_method_1_code, exceptionTable := #[], attributes := #[] }
def k13m0 : Method := { name := "<init>", desc := "()V", sig := { parameters := [], returnType := none }, accessFlags := 4, code := some k13c0 }
/-- java/util/AbstractCollection -/
def k13 : Class := { plain "java/util/AbstractCollection" (some 0) with
  accessFlags := 1057
  interfaces := #[12]
  cf := some (fileOf pool13 8 #[] #[{ accessFlags := 4, nameIndex := 5, descriptorIndex := 6, attributes := #[] }] 1057 2 #[77] #[])
  fields := #[]
  methods := #[k13m0]
  instanceTypes := #[]
  staticTypes := #[]
  resolved := Array.replicate 160 none
  statics := none }

def pool14 : Array CpInfo := pool [(8, .class_ 10), (1, u "java/util/SequencedCollection"), (15, .class_ 27), (0, u "java/lang/Object"), (0, .class_ 29), (0, u "java/util/Collection")] 27

/-- java/util/SequencedCollection -/
def k14 : Class := { plain "java/util/SequencedCollection" (some 0) with
  accessFlags := 1537
  interfaces := #[12]
  cf := some (fileOf pool14 8 #[] #[] 1537 26 #[28] #[])
  fields := #[]
  methods := #[]
  instanceTypes := #[]
  staticTypes := #[]
  resolved := Array.replicate 57 none
  statics := none }

def pool15 : Array CpInfo := pool [(8, .class_ 10), (1, u "java/util/List"), (49, u "add"), (3, u "(Ljava/lang/Object;)Z"), (7, u "()V"), (6, u "size"), (0, u "()I"), (22, .class_ 104), (0, u "java/lang/Object"), (15, .class_ 121), (0, u "java/util/SequencedCollection"), (1, u "iterator"), (0, u "()Ljava/util/Iterator;"), (44, u "clear")] 81

def k15m0 : Method := { name := "size", desc := "()I", sig := { parameters := [], returnType := some .int }, accessFlags := 1025, code := none }
def k15m1 : Method := { name := "iterator", desc := "()Ljava/util/Iterator;", sig := { parameters := [], returnType := some (.object "java/util/Iterator") }, accessFlags := 1025, code := none }
def k15m2 : Method := { name := "add", desc := "(Ljava/lang/Object;)Z", sig := { parameters := [(.object "java/lang/Object")], returnType := some .boolean }, accessFlags := 1025, code := none }
def k15m3 : Method := { name := "clear", desc := "()V", sig := { parameters := [], returnType := none }, accessFlags := 1025, code := none }
/-- java/util/List -/
def k15 : Class := { plain "java/util/List" (some 0) with
  accessFlags := 1537
  interfaces := #[14]
  cf := some (fileOf pool15 8 #[] #[{ accessFlags := 1025, nameIndex := 79, descriptorIndex := 80, attributes := #[] }, { accessFlags := 1025, nameIndex := 123, descriptorIndex := 124, attributes := #[] }, { accessFlags := 1025, nameIndex := 60, descriptorIndex := 64, attributes := #[] }, { accessFlags := 1025, nameIndex := 169, descriptorIndex := 72, attributes := #[] }] 1537 103 #[120] #[])
  fields := #[]
  methods := #[k15m0, k15m1, k15m2, k15m3]
  instanceTypes := #[]
  staticTypes := #[]
  resolved := Array.replicate 251 none
  statics := none }

def pool16 : Array CpInfo := pool [(1, .methodref 2 3), (0, .class_ 4), (0, .nameAndType 5 6), (0, u "java/util/AbstractCollection"), (0, u "<init>"), (0, u "()V"), (0, .fieldref 8 9), (0, .class_ 10), (0, .nameAndType 11 12), (0, u "java/util/AbstractList"), (0, u "modCount"), (0, u "I"), (64, .class_ 78), (0, u "java/util/AbstractList$Itr"), (3, .class_ 83), (0, u "java/util/AbstractList$ListItr"), (9, .class_ 94), (0, u "java/util/AbstractList$RandomAccessSubList"), (3, .class_ 99), (0, u "java/util/AbstractList$SubList"), (33, .class_ 134), (0, u "java/util/List"), (73, .class_ 209), (0, u "java/util/AbstractList$SubList$1"), (0, .class_ 211), (0, u "java/util/AbstractList$RandomAccessSpliterator")] 6

def k16c0 : Code := { maxStack := 2, maxLocals := 1, code := jdk_39_method_1_code, exceptionTable := #[], attributes := #[] }
def k16m0 : Method := { name := "<init>", desc := "()V", sig := { parameters := [], returnType := none }, accessFlags := 4, code := some k16c0 }
/-- java/util/AbstractList -/
def k16 : Class := { plain "java/util/AbstractList" (some 13) with
  accessFlags := 1057
  interfaces := #[15]
  cf := some (fileOf pool16 8 #[.nestMembers #[93, 98, 208, 210, 82, 77]] #[{ accessFlags := 4, nameIndex := 5, descriptorIndex := 6, attributes := #[] }] 1057 2 #[133] #[{ accessFlags := 132, nameIndex := 11, descriptorIndex := 12, attributes := #[] }])
  fields := #[{ name := "modCount", type := .int, accessFlags := 132, slot := 0, constantValue := 0 }]
  methods := #[k16m0]
  instanceTypes := #[.int]
  staticTypes := #[]
  resolved := Array.replicate 218 none
  statics := none }

def pool17 : Array CpInfo := pool [(1, .class_ 2), (0, u "java/util/RandomAccess"), (0, .class_ 4), (0, u "java/lang/Object")] 2

/-- java/util/RandomAccess -/
def k17 : Class := { plain "java/util/RandomAccess" (some 0) with
  accessFlags := 1537
  interfaces := #[]
  cf := some (fileOf pool17 1 #[] #[] 1537 3 #[] #[])
  fields := #[]
  methods := #[]
  instanceTypes := #[]
  staticTypes := #[]
  resolved := Array.replicate 7 none
  statics := none }

def pool18 : Array CpInfo := pool [(1, .class_ 2), (0, u "java/lang/Cloneable"), (0, .class_ 4), (0, u "java/lang/Object")] 2

/-- java/lang/Cloneable -/
def k18 : Class := { plain "java/lang/Cloneable" (some 0) with
  accessFlags := 1537
  interfaces := #[]
  cf := some (fileOf pool18 1 #[] #[] 1537 3 #[] #[])
  fields := #[]
  methods := #[]
  instanceTypes := #[]
  staticTypes := #[]
  resolved := Array.replicate 7 none
  statics := none }

def pool19 : Array CpInfo := pool [(1, .methodref 2 3), (0, .class_ 4), (0, .nameAndType 5 6), (0, u "java/util/AbstractList"), (0, u "<init>"), (0, u "()V"), (0, .class_ 8), (0, u "java/lang/Object"), (0, .fieldref 10 11), (0, .class_ 12), (0, .nameAndType 13 14), (0, u "java/util/ArrayList"), (0, u "elementData"), (0, u "[Ljava/lang/Object;"), (2, u "EMPTY_ELEMENTDATA"), (21, .fieldref 10 40), (0, .nameAndType 41 14), (0, u "DEFAULTCAPACITY_EMPTY_ELEMENTDATA"), (5, u "()[Ljava/lang/Object;"), (0, .fieldref 10 49), (0, .nameAndType 50 51), (0, u "size"), (0, u "I"), (11, .fieldref 10 64), (0, .nameAndType 65 51), (0, u "modCount"), (3, .methodref 10 70), (0, .nameAndType 71 72), (0, u "grow"), (0, u "(I)[Ljava/lang/Object;"), (6, .methodref 80 81), (0, .class_ 82), (0, .nameAndType 83 84), (0, u "java/lang/Math"), (0, u "max"), (0, u "(II)I"), (11, u "(Ljava/lang/Object;)Z"), (32, .methodref 10 130), (0, .nameAndType 71 47), (0, .methodref 10 132), (0, .nameAndType 133 134), (0, u "add"), (0, u "(Ljava/lang/Object;[Ljava/lang/Object;I)V"), (13, .class_ 149), (0, u "java/util/List"), (16, u "iterator"), (0, u "()Ljava/util/Iterator;"), (18, u "()I"), (75, .class_ 263), (0, u "java/util/ArrayList$ListItr"), (3, .class_ 268), (0, u "java/util/ArrayList$Itr"), (0, .methodref 267 270), (0, .nameAndType 5 271), (0, u "(Ljava/util/ArrayList;)V"), (4, .class_ 277), (0, u "java/util/ArrayList$SubList"), (12, .class_ 291), (0, u "java/util/ArrayList$ArrayListSpliterator"), (37, .class_ 330), (0, u "java/util/RandomAccess"), (0, .class_ 332), (0, u "java/lang/Cloneable"), (0, .class_ 334), (0, u "java/io/Serializable"), (0, u "serialVersionUID"), (0, u "J"), (3, u "DEFAULT_CAPACITY"), (78, u "clear"), (80, .class_ 501), (0, u "java/util/ArrayList$SubList$2"), (0, .class_ 503), (0, u "java/util/ArrayList$SubList$1")] 5

def k19c0 : Code := { maxStack := 2, maxLocals := 1, code := jdk_38_method_2_code, exceptionTable := #[], attributes := #[] }
def k19m0 : Method := { name := "<init>", desc := "()V", sig := { parameters := [], returnType := none }, accessFlags := 1, code := some k19c0 }
def k19c1 : Code := { maxStack := 4, maxLocals := 4, code := jdk_38_method_6_code, exceptionTable := #[], attributes := #[] }
def k19m1 : Method := { name := "grow", desc := "(I)[Ljava/lang/Object;", sig := { parameters := [.int], returnType := some (.array (.object "java/lang/Object")) }, accessFlags := 2, code := some k19c1 }
def k19c2 : Code := { maxStack := 3, maxLocals := 1, code := jdk_38_method_7_code, exceptionTable := #[], attributes := #[] }
def k19m2 : Method := { name := "grow", desc := "()[Ljava/lang/Object;", sig := { parameters := [], returnType := some (.array (.object "java/lang/Object")) }, accessFlags := 2, code := some k19c2 }
def k19c3 : Code := { maxStack := 1, maxLocals := 1, code := jdk_38_method_8_code, exceptionTable := #[], attributes := #[] }
def k19m3 : Method := { name := "size", desc := "()I", sig := { parameters := [], returnType := some .int }, accessFlags := 1, code := some k19c3 }
def k19c4 : Code := { maxStack := 3, maxLocals := 4, code := jdk_38_method_24_code, exceptionTable := #[], attributes := #[] }
def k19m4 : Method := { name := "add", desc := "(Ljava/lang/Object;[Ljava/lang/Object;I)V", sig := { parameters := [(.object "java/lang/Object"), (.array (.object "java/lang/Object")), .int], returnType := none }, accessFlags := 2, code := some k19c4 }
def k19c5 : Code := { maxStack := 4, maxLocals := 2, code := jdk_38_method_25_code, exceptionTable := #[], attributes := #[] }
def k19m5 : Method := { name := "add", desc := "(Ljava/lang/Object;)Z", sig := { parameters := [(.object "java/lang/Object")], returnType := some .boolean }, accessFlags := 1, code := some k19c5 }
def k19c6 : Code := { maxStack := 3, maxLocals := 4, code := jdk_38_method_40_code, exceptionTable := #[], attributes := #[] }
def k19m6 : Method := { name := "clear", desc := "()V", sig := { parameters := [], returnType := none }, accessFlags := 1, code := some k19c6 }
def k19c7 : Code := { maxStack := 3, maxLocals := 1, code := jdk_38_method_55_code, exceptionTable := #[], attributes := #[] }
def k19m7 : Method := { name := "iterator", desc := "()Ljava/util/Iterator;", sig := { parameters := [], returnType := some (.object "java/util/Iterator") }, accessFlags := 1, code := some k19c7 }
/-- java/util/ArrayList -/
def k19 : Class := { plain "java/util/ArrayList" (some 16) with
  accessFlags := 33
  interfaces := #[15, 17, 18, 2]
  cf := some (fileOf pool19 10 #[.nestMembers #[290, 276, 500, 502, 262, 267]] #[{ accessFlags := 1, nameIndex := 5, descriptorIndex := 6, attributes := #[] }, { accessFlags := 2, nameIndex := 71, descriptorIndex := 72, attributes := #[] }, { accessFlags := 2, nameIndex := 71, descriptorIndex := 47, attributes := #[] }, { accessFlags := 1, nameIndex := 50, descriptorIndex := 186, attributes := #[] }, { accessFlags := 2, nameIndex := 133, descriptorIndex := 134, attributes := #[] }, { accessFlags := 1, nameIndex := 133, descriptorIndex := 96, attributes := #[] }, { accessFlags := 1, nameIndex := 419, descriptorIndex := 6, attributes := #[] }, { accessFlags := 1, nameIndex := 166, descriptorIndex := 167, attributes := #[] }] 33 2 #[148, 329, 331, 333] #[{ accessFlags := 26, nameIndex := 335, descriptorIndex := 336, attributes := #[] }, { accessFlags := 26, nameIndex := 340, descriptorIndex := 51, attributes := #[] }, { accessFlags := 26, nameIndex := 17, descriptorIndex := 14, attributes := #[] }, { accessFlags := 26, nameIndex := 41, descriptorIndex := 14, attributes := #[] }, { accessFlags := 128, nameIndex := 13, descriptorIndex := 14, attributes := #[] }, { accessFlags := 2, nameIndex := 50, descriptorIndex := 51, attributes := #[] }])
  fields := #[{ name := "serialVersionUID", type := .long, accessFlags := 26, slot := 0, constantValue := 0 }, { name := "DEFAULT_CAPACITY", type := .int, accessFlags := 26, slot := 1, constantValue := 0 }, { name := "EMPTY_ELEMENTDATA", type := (.array (.object "java/lang/Object")), accessFlags := 26, slot := 2, constantValue := 0 }, { name := "DEFAULTCAPACITY_EMPTY_ELEMENTDATA", type := (.array (.object "java/lang/Object")), accessFlags := 26, slot := 3, constantValue := 0 }, { name := "elementData", type := (.array (.object "java/lang/Object")), accessFlags := 128, slot := 1, constantValue := 0 }, { name := "size", type := .int, accessFlags := 2, slot := 2, constantValue := 0 }]
  methods := #[k19m0, k19m1, k19m2, k19m3, k19m4, k19m5, k19m6, k19m7]
  instanceTypes := #[.int, (.array (.object "java/lang/Object")), .int]
  staticTypes := #[.long, .int, (.array (.object "java/lang/Object")), (.array (.object "java/lang/Object"))]
  resolved := Array.replicate 509 none
  statics := some 1 }

def pool20 : Array CpInfo := pool [(16, .class_ 18), (1, u "java/util/Iterator"), (0, u "hasNext"), (0, u "()Z"), (10, .class_ 32), (0, u "java/lang/Object")] 20

def k20m0 : Method := { name := "hasNext", desc := "()Z", sig := { parameters := [], returnType := some .boolean }, accessFlags := 1025, code := none }
/-- java/util/Iterator -/
def k20 : Class := { plain "java/util/Iterator" (some 0) with
  accessFlags := 1537
  interfaces := #[]
  cf := some (fileOf pool20 16 #[] #[{ accessFlags := 1025, nameIndex := 19, descriptorIndex := 20, attributes := #[] }] 1537 31 #[] #[])
  fields := #[]
  methods := #[k20m0]
  instanceTypes := #[]
  staticTypes := #[]
  resolved := Array.replicate 53 none
  statics := none }

def pool21 : Array CpInfo := pool [(1, .fieldref 2 3), (0, .class_ 4), (0, .nameAndType 5 6), (0, u "java/util/ArrayList$Itr"), (0, u "this$0"), (0, u "Ljava/util/ArrayList;"), (0, .methodref 8 9), (0, .class_ 10), (0, .nameAndType 11 12), (0, u "java/lang/Object"), (0, u "<init>"), (0, u "()V"), (0, .fieldref 2 14), (0, .nameAndType 15 16), (0, u "lastRet"), (0, u "I"), (0, .fieldref 18 19), (0, .class_ 20), (0, .nameAndType 21 16), (0, u "java/util/ArrayList"), (0, u "modCount"), (0, .fieldref 2 23), (0, .nameAndType 24 16), (0, u "expectedModCount"), (0, .fieldref 2 26), (0, .nameAndType 27 16), (0, u "cursor"), (0, .fieldref 18 29), (0, .nameAndType 30 16), (0, u "size"), (38, .class_ 70), (0, u "java/util/Iterator"), (0, u "(Ljava/util/ArrayList;)V"), (8, u "hasNext"), (0, u "()Z")] 22

def k21c0 : Code := { maxStack := 2, maxLocals := 2, code := jdk_49_method_1_code, exceptionTable := #[], attributes := #[] }
def k21m0 : Method := { name := "<init>", desc := "(Ljava/util/ArrayList;)V", sig := { parameters := [(.object "java/util/ArrayList")], returnType := none }, accessFlags := 0, code := some k21c0 }
def k21c1 : Code := { maxStack := 2, maxLocals := 1, code := jdk_49_method_2_code, exceptionTable := #[], attributes := #[] }
def k21m1 : Method := { name := "hasNext", desc := "()Z", sig := { parameters := [], returnType := some .boolean }, accessFlags := 1, code := some k21c1 }
/-- java/util/ArrayList$Itr -/
def k21 : Class := { plain "java/util/ArrayList$Itr" (some 0) with
  accessFlags := 32
  interfaces := #[20]
  cf := some (fileOf pool21 2 #[.nestHost 18] #[{ accessFlags := 0, nameIndex := 11, descriptorIndex := 71, attributes := #[] }, { accessFlags := 1, nameIndex := 80, descriptorIndex := 81, attributes := #[] }] 32 8 #[69] #[{ accessFlags := 0, nameIndex := 27, descriptorIndex := 16, attributes := #[] }, { accessFlags := 0, nameIndex := 15, descriptorIndex := 16, attributes := #[] }, { accessFlags := 0, nameIndex := 24, descriptorIndex := 16, attributes := #[] }, { accessFlags := 4112, nameIndex := 5, descriptorIndex := 6, attributes := #[] }])
  fields := #[{ name := "cursor", type := .int, accessFlags := 0, slot := 0, constantValue := 0 }, { name := "lastRet", type := .int, accessFlags := 0, slot := 1, constantValue := 0 }, { name := "expectedModCount", type := .int, accessFlags := 0, slot := 2, constantValue := 0 }, { name := "this$0", type := (.object "java/util/ArrayList"), accessFlags := 4112, slot := 3, constantValue := 0 }]
  methods := #[k21m0, k21m1]
  instanceTypes := #[.int, .int, .int, (.object "java/util/ArrayList")]
  staticTypes := #[]
  resolved := Array.replicate 104 none
  statics := none }

def pool22 : Array CpInfo := pool [(1, .methodref 2 3), (0, .class_ 4), (0, .nameAndType 5 6), (0, u "java/lang/Object"), (0, u "<init>"), (0, u "()V"), (0, .class_ 8), (0, u "java/lang/Record")] 13

def k22c0 : Code := { maxStack := 1, maxLocals := 1, code := jdk_30_method_1_code, exceptionTable := #[], attributes := #[] }
def k22m0 : Method := { name := "<init>", desc := "()V", sig := { parameters := [], returnType := none }, accessFlags := 4, code := some k22c0 }
/-- java/lang/Record -/
def k22 : Class := { plain "java/lang/Record" (some 0) with
  accessFlags := 1057
  interfaces := #[]
  cf := some (fileOf pool22 7 #[] #[{ accessFlags := 4, nameIndex := 5, descriptorIndex := 6, attributes := #[] }] 1057 2 #[] #[])
  fields := #[]
  methods := #[k22m0]
  instanceTypes := #[]
  staticTypes := #[]
  resolved := Array.replicate 22 none
  statics := none }

def pool23 : Array CpInfo := pool [(1, .methodref 2 3), (0, .class_ 4), (0, .nameAndType 5 6), (0, u "java/lang/Record"), (0, u "<init>"), (0, u "()V"), (0, .fieldref 8 9), (0, .class_ 10), (0, .nameAndType 11 12), (0, u "com/example/ledgerleaf/ledgerleaf/Finding"), (0, u "line"), (0, u "I"), (0, .fieldref 8 14), (0, .nameAndType 15 16), (0, u "message"), (0, u "Ljava/lang/String;"), (97, u "()Ljava/lang/String;"), (11, u "QUOTE_LIMIT"), (2, u "(ILjava/lang/String;)V")] 47

def k23c0 : Code := { maxStack := 2, maxLocals := 3, code := prog_39_method_1_code, exceptionTable := #[], attributes := #[] }
def k23m0 : Method := { name := "<init>", desc := "(ILjava/lang/String;)V", sig := { parameters := [.int, (.object "java/lang/String")], returnType := none }, accessFlags := 0, code := some k23c0 }
def k23c1 : Code := { maxStack := 1, maxLocals := 1, code := prog_39_method_12_code, exceptionTable := #[], attributes := #[] }
def k23m1 : Method := { name := "message", desc := "()Ljava/lang/String;", sig := { parameters := [], returnType := some (.object "java/lang/String") }, accessFlags := 1, code := some k23c1 }
/-- com/example/ledgerleaf/ledgerleaf/Finding -/
def k23 : Class := { plain "com/example/ledgerleaf/ledgerleaf/Finding" (some 22) with
  accessFlags := 48
  interfaces := #[]
  cf := some (fileOf pool23 8 #[] #[{ accessFlags := 0, nameIndex := 5, descriptorIndex := 129, attributes := #[] }, { accessFlags := 1, nameIndex := 15, descriptorIndex := 114, attributes := #[] }] 48 2 #[] #[{ accessFlags := 18, nameIndex := 11, descriptorIndex := 12, attributes := #[] }, { accessFlags := 18, nameIndex := 15, descriptorIndex := 16, attributes := #[] }, { accessFlags := 26, nameIndex := 126, descriptorIndex := 12, attributes := #[] }])
  fields := #[{ name := "line", type := .int, accessFlags := 18, slot := 0, constantValue := 0 }, { name := "message", type := (.object "java/lang/String"), accessFlags := 18, slot := 1, constantValue := 0 }, { name := "QUOTE_LIMIT", type := .int, accessFlags := 26, slot := 0, constantValue := 0 }]
  methods := #[k23m0, k23m1]
  instanceTypes := #[.int, (.object "java/lang/String")]
  staticTypes := #[.int]
  resolved := Array.replicate 177 none
  statics := none }

def pool24 : Array CpInfo := pool [(1, .class_ 2), (0, u "java/lang/Math"), (1, .class_ 6), (1, u "java/lang/Object"), (0, u "<init>"), (0, u "()V"), (89, .class_ 100), (1, u "java/lang/Math$RandomNumberGeneratorHolder"), (71, u "negativeZeroFloatBits"), (0, u "J"), (2, u "negativeZeroDoubleBits"), (21, u "max"), (46, u "$assertionsDisabled"), (0, u "Z"), (88, u "(II)I"), (2, u "twoToTheDoubleScaleDown"), (0, u "D"), (4, u "twoToTheDoubleScaleUp"), (9, u "E"), (3, u "PI"), (2, u "TAU"), (2, u "DEGREES_TO_RADIANS"), (0, u "RADIANS_TO_DEGREES")] 94

def k24m0 : Method := { name := "<init>", desc := "()V", sig := { parameters := [], returnType := none }, accessFlags := 2, code := none }
def k24c1 : Code := { maxStack := 2, maxLocals := 2, code := jdk_29_method_65_code, exceptionTable := #[], attributes := #[] }
def k24m1 : Method := { name := "max", desc := "(II)I", sig := { parameters := [.int, .int], returnType := some .int }, accessFlags := 9, code := some k24c1 }
/-- java/lang/Math -/
def k24 : Class := { plain "java/lang/Math" (some 0) with
  accessFlags := 49
  interfaces := #[]
  cf := some (fileOf pool24 1 #[.nestMembers #[98]] #[{ accessFlags := 2, nameIndex := 7, descriptorIndex := 8, attributes := #[] }, { accessFlags := 9, nameIndex := 198, descriptorIndex := 335, attributes := #[] }] 49 4 #[] #[{ accessFlags := 25, nameIndex := 354, descriptorIndex := 339, attributes := #[] }, { accessFlags := 25, nameIndex := 358, descriptorIndex := 339, attributes := #[] }, { accessFlags := 25, nameIndex := 361, descriptorIndex := 339, attributes := #[] }, { accessFlags := 26, nameIndex := 364, descriptorIndex := 339, attributes := #[] }, { accessFlags := 26, nameIndex := 365, descriptorIndex := 339, attributes := #[] }, { accessFlags := 26, nameIndex := 172, descriptorIndex := 173, attributes := #[] }, { accessFlags := 26, nameIndex := 176, descriptorIndex := 173, attributes := #[] }, { accessFlags := 8, nameIndex := 344, descriptorIndex := 339, attributes := #[] }, { accessFlags := 8, nameIndex := 338, descriptorIndex := 339, attributes := #[] }, { accessFlags := 4120, nameIndex := 245, descriptorIndex := 246, attributes := #[] }])
  fields := #[{ name := "E", type := .double, accessFlags := 25, slot := 0, constantValue := 0 }, { name := "PI", type := .double, accessFlags := 25, slot := 1, constantValue := 0 }, { name := "TAU", type := .double, accessFlags := 25, slot := 2, constantValue := 0 }, { name := "DEGREES_TO_RADIANS", type := .double, accessFlags := 26, slot := 3, constantValue := 0 }, { name := "RADIANS_TO_DEGREES", type := .double, accessFlags := 26, slot := 4, constantValue := 0 }, { name := "negativeZeroFloatBits", type := .long, accessFlags := 26, slot := 5, constantValue := 0 }, { name := "negativeZeroDoubleBits", type := .long, accessFlags := 26, slot := 6, constantValue := 0 }, { name := "twoToTheDoubleScaleUp", type := .double, accessFlags := 8, slot := 7, constantValue := 0 }, { name := "twoToTheDoubleScaleDown", type := .double, accessFlags := 8, slot := 8, constantValue := 0 }, { name := "$assertionsDisabled", type := .boolean, accessFlags := 4120, slot := 9, constantValue := 0 }]
  methods := #[k24m0, k24m1]
  instanceTypes := #[]
  staticTypes := #[.double, .double, .double, .double, .double, .long, .long, .double, .double, .boolean]
  resolved := Array.replicate 460 none
  statics := none }

def pool25 : Array CpInfo := pool [(4, .class_ 6), (1, u "java/lang/Object"), (0, u "<init>"), (0, u "()V"), (5, .class_ 16), (1, u "java/lang/StringLatin1"), (104, u "$assertionsDisabled"), (0, u "Z"), (98, .class_ 223), (1, u "java/lang/StringLatin1$LinesSpliterator"), (166, .class_ 391), (0, u "java/lang/StringLatin1$CharsSpliterator")] 3

def k25m0 : Method := { name := "<init>", desc := "()V", sig := { parameters := [], returnType := none }, accessFlags := 0, code := none }
/-- java/lang/StringLatin1 -/
def k25 : Class := { plain "java/lang/StringLatin1" (some 0) with
  accessFlags := 48
  interfaces := #[]
  cf := some (fileOf pool25 14 #[.nestMembers #[390, 221]] #[{ accessFlags := 0, nameIndex := 7, descriptorIndex := 8, attributes := #[] }] 48 4 #[] #[{ accessFlags := 4120, nameIndex := 121, descriptorIndex := 122, attributes := #[] }])
  fields := #[{ name := "$assertionsDisabled", type := .boolean, accessFlags := 4120, slot := 0, constantValue := 0 }]
  methods := #[k25m0]
  instanceTypes := #[]
  staticTypes := #[.boolean]
  resolved := Array.replicate 395 none
  statics := none }

def pool26 : Array CpInfo := pool [(2, .class_ 4), (1, u "java/lang/Object"), (0, u "<init>"), (0, u "()V"), (17, .class_ 26), (1, u "jdk/internal/util/Preconditions"), (28, .class_ 56), (0, u "jdk/internal/util/Preconditions$4"), (57, .class_ 115), (0, u "jdk/internal/util/Preconditions$1"), (7, u "SIOOBE_FORMATTER"), (0, u "Ljava/util/function/BiFunction;"), (0, .class_ 126), (0, u "jdk/internal/util/Preconditions$2"), (3, u "AIOOBE_FORMATTER"), (0, .class_ 132), (0, u "jdk/internal/util/Preconditions$3"), (3, u "IOOBE_FORMATTER")] 57

def k26m0 : Method := { name := "<init>", desc := "()V", sig := { parameters := [], returnType := none }, accessFlags := 1, code := none }
/-- jdk/internal/util/Preconditions -/
def k26 : Class := { plain "jdk/internal/util/Preconditions" (some 0) with
  accessFlags := 33
  interfaces := #[]
  cf := some (fileOf pool26 24 #[.nestMembers #[55, 131, 125, 114]] #[{ accessFlags := 1, nameIndex := 5, descriptorIndex := 6, attributes := #[] }] 33 2 #[] #[{ accessFlags := 25, nameIndex := 123, descriptorIndex := 124, attributes := #[] }, { accessFlags := 25, nameIndex := 130, descriptorIndex := 124, attributes := #[] }, { accessFlags := 25, nameIndex := 136, descriptorIndex := 124, attributes := #[] }])
  fields := #[{ name := "SIOOBE_FORMATTER", type := (.object "java/util/function/BiFunction"), accessFlags := 25, slot := 0, constantValue := 0 }, { name := "AIOOBE_FORMATTER", type := (.object "java/util/function/BiFunction"), accessFlags := 25, slot := 1, constantValue := 0 }, { name := "IOOBE_FORMATTER", type := (.object "java/util/function/BiFunction"), accessFlags := 25, slot := 2, constantValue := 0 }]
  methods := #[k26m0]
  instanceTypes := #[]
  staticTypes := #[(.object "java/util/function/BiFunction"), (.object "java/util/function/BiFunction"), (.object "java/util/function/BiFunction")]
  resolved := Array.replicate 194 none
  statics := some 2 }

def pool27 : Array CpInfo := pool [(9, u "<init>"), (6, .class_ 18), (1, u "java/lang/Object"), (0, u "()V"), (1, .class_ 23), (1, u "jdk/internal/util/ArraysSupport"), (0, u "LOG2_ARRAY_LONG_INDEX_SCALE"), (0, u "I"), (2, u "U"), (0, u "Ljdk/internal/misc/Unsafe;"), (8, u "BIG_ENDIAN"), (0, u "Z"), (8, u "LOG2_BYTE_BIT_SIZE"), (4, u "LOG2_ARRAY_INT_INDEX_SCALE"), (54, u "JLA"), (0, u "Ljdk/internal/access/JavaLangAccess;"), (11, u "LOG2_ARRAY_BOOLEAN_INDEX_SCALE"), (9, u "LOG2_ARRAY_BYTE_INDEX_SCALE"), (5, u "LOG2_ARRAY_CHAR_INDEX_SCALE"), (5, u "LOG2_ARRAY_SHORT_INDEX_SCALE"), (18, u "LOG2_ARRAY_FLOAT_INDEX_SCALE"), (24, u "LOG2_ARRAY_DOUBLE_INDEX_SCALE"), (89, u "T_BOOLEAN"), (2, u "T_CHAR"), (1, u "T_FLOAT"), (1, u "T_DOUBLE"), (1, u "T_BYTE"), (1, u "T_SHORT"), (1, u "T_INT"), (1, u "T_LONG"), (1, u "SOFT_MAX_ARRAY_LENGTH")] 83

def k27m0 : Method := { name := "<init>", desc := "()V", sig := { parameters := [], returnType := none }, accessFlags := 2, code := none }
/-- jdk/internal/util/ArraysSupport -/
def k27 : Class := { plain "jdk/internal/util/ArraysSupport" (some 0) with
  accessFlags := 33
  interfaces := #[]
  cf := some (fileOf pool27 21 #[] #[{ accessFlags := 2, nameIndex := 9, descriptorIndex := 19, attributes := #[] }] 33 16 #[] #[{ accessFlags := 24, nameIndex := 28, descriptorIndex := 29, attributes := #[] }, { accessFlags := 26, nameIndex := 38, descriptorIndex := 39, attributes := #[] }, { accessFlags := 25, nameIndex := 121, descriptorIndex := 25, attributes := #[] }, { accessFlags := 25, nameIndex := 131, descriptorIndex := 25, attributes := #[] }, { accessFlags := 25, nameIndex := 137, descriptorIndex := 25, attributes := #[] }, { accessFlags := 25, nameIndex := 143, descriptorIndex := 25, attributes := #[] }, { accessFlags := 25, nameIndex := 53, descriptorIndex := 25, attributes := #[] }, { accessFlags := 25, nameIndex := 24, descriptorIndex := 25, attributes := #[] }, { accessFlags := 25, nameIndex := 162, descriptorIndex := 25, attributes := #[] }, { accessFlags := 25, nameIndex := 187, descriptorIndex := 25, attributes := #[] }, { accessFlags := 26, nameIndex := 48, descriptorIndex := 25, attributes := #[] }, { accessFlags := 25, nameIndex := 277, descriptorIndex := 25, attributes := #[] }, { accessFlags := 25, nameIndex := 280, descriptorIndex := 25, attributes := #[] }, { accessFlags := 25, nameIndex := 282, descriptorIndex := 25, attributes := #[] }, { accessFlags := 25, nameIndex := 284, descriptorIndex := 25, attributes := #[] }, { accessFlags := 25, nameIndex := 286, descriptorIndex := 25, attributes := #[] }, { accessFlags := 25, nameIndex := 288, descriptorIndex := 25, attributes := #[] }, { accessFlags := 25, nameIndex := 290, descriptorIndex := 25, attributes := #[] }, { accessFlags := 25, nameIndex := 292, descriptorIndex := 25, attributes := #[] }, { accessFlags := 26, nameIndex := 108, descriptorIndex := 109, attributes := #[] }, { accessFlags := 25, nameIndex := 294, descriptorIndex := 25, attributes := #[] }])
  fields := #[{ name := "U", type := (.object "jdk/internal/misc/Unsafe"), accessFlags := 24, slot := 0, constantValue := 0 }, { name := "BIG_ENDIAN", type := .boolean, accessFlags := 26, slot := 1, constantValue := 0 }, { name := "LOG2_ARRAY_BOOLEAN_INDEX_SCALE", type := .int, accessFlags := 25, slot := 2, constantValue := 0 }, { name := "LOG2_ARRAY_BYTE_INDEX_SCALE", type := .int, accessFlags := 25, slot := 3, constantValue := 0 }, { name := "LOG2_ARRAY_CHAR_INDEX_SCALE", type := .int, accessFlags := 25, slot := 4, constantValue := 0 }, { name := "LOG2_ARRAY_SHORT_INDEX_SCALE", type := .int, accessFlags := 25, slot := 5, constantValue := 0 }, { name := "LOG2_ARRAY_INT_INDEX_SCALE", type := .int, accessFlags := 25, slot := 6, constantValue := 0 }, { name := "LOG2_ARRAY_LONG_INDEX_SCALE", type := .int, accessFlags := 25, slot := 7, constantValue := 0 }, { name := "LOG2_ARRAY_FLOAT_INDEX_SCALE", type := .int, accessFlags := 25, slot := 8, constantValue := 0 }, { name := "LOG2_ARRAY_DOUBLE_INDEX_SCALE", type := .int, accessFlags := 25, slot := 9, constantValue := 0 }, { name := "LOG2_BYTE_BIT_SIZE", type := .int, accessFlags := 26, slot := 10, constantValue := 0 }, { name := "T_BOOLEAN", type := .int, accessFlags := 25, slot := 11, constantValue := 0 }, { name := "T_CHAR", type := .int, accessFlags := 25, slot := 12, constantValue := 0 }, { name := "T_FLOAT", type := .int, accessFlags := 25, slot := 13, constantValue := 0 }, { name := "T_DOUBLE", type := .int, accessFlags := 25, slot := 14, constantValue := 0 }, { name := "T_BYTE", type := .int, accessFlags := 25, slot := 15, constantValue := 0 }, { name := "T_SHORT", type := .int, accessFlags := 25, slot := 16, constantValue := 0 }, { name := "T_INT", type := .int, accessFlags := 25, slot := 17, constantValue := 0 }, { name := "T_LONG", type := .int, accessFlags := 25, slot := 18, constantValue := 0 }, { name := "JLA", type := (.object "jdk/internal/access/JavaLangAccess"), accessFlags := 26, slot := 19, constantValue := 0 }, { name := "SOFT_MAX_ARRAY_LENGTH", type := .int, accessFlags := 25, slot := 20, constantValue := 0 }]
  methods := #[k27m0]
  instanceTypes := #[]
  staticTypes := #[(.object "jdk/internal/misc/Unsafe"), .boolean, .int, .int, .int, .int, .int, .int, .int, .int, .int, .int, .int, .int, .int, .int, .int, .int, .int, (.object "jdk/internal/access/JavaLangAccess"), .int]
  resolved := Array.replicate 378 none
  statics := none }

/-- the primitive byte -/
def k28 : Class := { plain "byte" none with kind := .primitive 'B', accessFlags := 0x411 }
/-- [B -/
def k29 : Class := { plain "[B" (some 0) with kind := .array 28 .byte, interfaces := #[18, 2], accessFlags := 1041 }

/-- the primitive char -/
def k30 : Class := { plain "char" none with kind := .primitive 'C', accessFlags := 0x411 }
/-- [C -/
def k31 : Class := { plain "[C" (some 0) with kind := .array 30 .char, interfaces := #[18, 2], accessFlags := 1041 }

/-- the primitive int -/
def k32 : Class := { plain "int" none with kind := .primitive 'I', accessFlags := 0x411 }
/-- [I -/
def k33 : Class := { plain "[I" (some 0) with kind := .array 32 .int, interfaces := #[18, 2], accessFlags := 1041 }

/-- [Ljava/lang/Object; -/
def k34 : Class := { plain "[Ljava/lang/Object;" (some 0) with kind := .array 0 (.object "java/lang/Object"), interfaces := #[18, 2], accessFlags := 1041 }

def heap : Heap := #[{ cls := 7, slots := #[.long 0, .int 1, .null, .int 0, .null, .int 0, .int 0], vm := .statics 7 },
  { cls := 19, slots := #[.long 0, .int 0, .ref 3, .ref 4], vm := .statics 19 },
  { cls := 26, slots := #[.null, .null, .null], vm := .statics 26 },
  { cls := 34, slots := #[], vm := .none },
  { cls := 34, slots := #[], vm := .none }]
def classes : Array Class := #[k0, k1, k2, k3, k4, k5, k6, k7, k8, k9, k10, k11, k12, k13, k14, k15, k16, k17, k18, k19, k20, k21, k22, k23, k24, k25, k26, k27, k28, k29, k30, k31, k32, k33, k34]
def interned : List (Array UInt16 × Addr) := []
def slotsUsed : Nat := 14
def theMethod : MethodId := ⟨1, 1⟩
def args0 : Array Value := #[.int 5, .int 6, .int 7, .int 8, .int 1]
def aboutOver (below : List Frame) : State where
  vm := { classes := classes, interned := interned.toArray }
  heap := heap
  slotsUsed := slotsUsed
  threads := #[{ frames := .invoking theMethod args0 :: below }]
def below0 : List Frame := [.native { method := ⟨0, 0⟩, args := #[] }]
def about1 : State := aboutOver below0
def p0 : Program := .bare "" "" ""
def e0 : Env := launch0.env 0 0 0
theorem w_frames : about1.frames = Frame.invoking theMethod args0 :: below0 := rfl
set_option maxRecDepth 65536 in
theorem w_args : argsFit about1.vm theMethod args0 = true := by decide +kernel
set_option maxRecDepth 65536 in
theorem w_heap : heapFits about1 = true := by decide +kernel
set_option maxRecDepth 65536 in
theorem w_runnable : about1.curStatus? = some .runnable := by decide +kernel
set_option maxRecDepth 65536 in
theorem w_alone : about1.alone = true := by decide +kernel
set_option maxRecDepth 65536 in
theorem w_named : about1.methodNamed? x = some theMethod := by decide +kernel
set_option maxRecDepth 65536 in
theorem w_hears : about1.hears theMethod below0 = true := by decide +kernel
set_option maxRecDepth 65536 in
theorem w_ripe : about1.ripe theMethod args0 below0 = true := by decide +kernel
theorem w_running : about1.status = .running := rfl
set_option maxRecDepth 65536 in
theorem w_room : about1.hasRoom e0.platform room_1 = true :=
  launch0.hasRoom_least _ room_1 (by decide +kernel) (by decide +kernel) (by decide +kernel) (by decide +kernel) (by decide +kernel) (by decide +kernel)
theorem allAtoms_all (ts : List Jvm.Cond) (a : Array Jvm.Value) (st : Jvm.State) : (allAtoms ts).before a st = ts.all (fun c => c.before a st) := by
  induction ts with
  | nil => rfl
  | cons c t ih =>
    show (Jvm.Cond.and c (allAtoms t)).before a st = _
    rw [Jvm.Cond.before_and, ih, List.all_cons]
def words1 : List Jvm.Cond := Jvm.Cond.code x code maxLocals ret :: tables_1
/-- a 'code' word, met by the world's own term for the bytes: nothing is compared byte by byte -/
theorem code_word {y : MethodName} {bytes : ByteArray} {mx : Nat} {rt : Option FieldType} {a : Array Value} {s : State} {m : MethodId} {meth : Method} {c : Code} (h1 : s.methodNamed? y = some m) (h2 : s.vm.method? m = some meth) (h3 : meth.code = some c) (h4 : c.code = bytes)
    (h5 : (c.maxLocals == mx && c.exceptionTable.isEmpty && decide (c.maxStack ≤ mostOperands) && decide (meth.sig.returnType = rt) && !meth.locks && decide (parseMethodDescriptor y.desc = some meth.sig)) = true) : (Jvm.Cond.code y bytes mx rt).before a s = true := by
  simp only [Bool.and_eq_true, beq_iff_eq, Bool.not_eq_true', decide_eq_true_eq] at h5
  obtain ⟨⟨⟨⟨⟨g1, g2⟩, g3⟩, g4⟩, g5⟩, g6⟩ := h5
  simp [Cond.before, Cond.holds, Cond.value, h1, h2, h3, h4, g1, g2, g3, g4, g5, g6]
def isCode : Jvm.Cond → Bool
  | .code _ _ _ _ => true
  | _ => false
theorem all_split {L : List Jvm.Cond} {P : Jvm.Cond → Bool} (h1 : L.all (fun c => isCode c || P c) = true) (h2 : ∀ c ∈ L.filter isCode, P c = true) : L.all P = true := by
  refine List.all_eq_true.mpr fun c hc => ?_
  have h := List.all_eq_true.mp h1 c hc
  rcases Bool.eq_false_or_eq_true (isCode c) with hi | hi
  · exact h2 c (List.mem_filter.mpr ⟨hc, hi⟩)
  · simpa [hi] using h
set_option maxRecDepth 65536 in
theorem w_c0 : (Jvm.Cond.code x code maxLocals ret).before args0 about1 = true := code_word (m := ⟨1, 1⟩) (meth := k1m1) (c := k1c1) (by decide +kernel) rfl rfl rfl (by decide +kernel)
set_option maxRecDepth 65536 in
theorem w_c1 : (Jvm.Cond.code ({ cls := "java/lang/String", name := "<init>", desc := "([C)V" } : Jvm.MethodName) jdk_42_method_3_code (2 : Nat) (Option.none : Option Jvm.ClassFile.FieldType)).before args0 about1 = true := code_word (m := ⟨7, 1⟩) (meth := k7m1) (c := k7c1) (by decide +kernel) rfl rfl rfl (by decide +kernel)
set_option maxRecDepth 65536 in
theorem w_c2 : (Jvm.Cond.code ({ cls := "java/lang/String", name := "<init>", desc := "([CIILjava/lang/Void;)V" } : Jvm.MethodName) jdk_42_method_149_code (6 : Nat) (Option.none : Option Jvm.ClassFile.FieldType)).before args0 about1 = true := code_word (m := ⟨7, 3⟩) (meth := k7m3) (c := k7c3) (by decide +kernel) rfl rfl rfl (by decide +kernel)
set_option maxRecDepth 65536 in
theorem w_c3 : (Jvm.Cond.code ({ cls := "java/lang/Object", name := "<init>", desc := "()V" } : Jvm.MethodName) object_method_1_code (1 : Nat) (Option.none : Option Jvm.ClassFile.FieldType)).before args0 about1 = true := code_word (m := ⟨0, 0⟩) (meth := k0m0) (c := k0c0) (by decide +kernel) rfl rfl rfl (by decide +kernel)
set_option maxRecDepth 65536 in
theorem w_c4 : (Jvm.Cond.code ({ cls := "java/lang/StringUTF16", name := "compress", desc := "([CII)[B" } : Jvm.MethodName) jdk_52_method_16_code (6 : Nat) (Option.some (Jvm.ClassFile.FieldType.array Jvm.ClassFile.FieldType.byte))).before args0 about1 = true := code_word (m := ⟨8, 2⟩) (meth := k8m2) (c := k8c2) (by decide +kernel) rfl rfl rfl (by decide +kernel)
set_option maxRecDepth 65536 in
theorem w_c5 : (Jvm.Cond.code ({ cls := "java/lang/StringUTF16", name := "compress", desc := "([CI[BII)I" } : Jvm.MethodName) jdk_52_method_21_code (7 : Nat) (Option.some Jvm.ClassFile.FieldType.int)).before args0 about1 = true := code_word (m := ⟨8, 3⟩) (meth := k8m3) (c := k8c3) (by decide +kernel) rfl rfl rfl (by decide +kernel)
set_option maxRecDepth 65536 in
theorem w_c6 : (Jvm.Cond.code ({ cls := "java/lang/StringUTF16", name := "coderFromArrayLen", desc := "([BI)B" } : Jvm.MethodName) jdk_52_method_15_code (2 : Nat) (Option.some Jvm.ClassFile.FieldType.byte)).before args0 about1 = true := code_word (m := ⟨8, 1⟩) (meth := k8m1) (c := k8c1) (by decide +kernel) rfl rfl rfl (by decide +kernel)
set_option maxRecDepth 65536 in
theorem w_c7 : (Jvm.Cond.code ({ cls := "com/example/ledgerleaf/ledgerleaf/Findings", name := "<init>", desc := "(II)V" } : Jvm.MethodName) prog_40_method_2_code (3 : Nat) (Option.none : Option Jvm.ClassFile.FieldType)).before args0 about1 = true := code_word (m := ⟨11, 1⟩) (meth := k11m1) (c := k11c1) (by decide +kernel) rfl rfl rfl (by decide +kernel)
set_option maxRecDepth 65536 in
theorem w_c8 : (Jvm.Cond.code ({ cls := "java/util/ArrayList", name := "<init>", desc := "()V" } : Jvm.MethodName) jdk_38_method_2_code (1 : Nat) (Option.none : Option Jvm.ClassFile.FieldType)).before args0 about1 = true := code_word (m := ⟨19, 0⟩) (meth := k19m0) (c := k19c0) (by decide +kernel) rfl rfl rfl (by decide +kernel)
set_option maxRecDepth 65536 in
theorem w_c9 : (Jvm.Cond.code ({ cls := "java/util/AbstractList", name := "<init>", desc := "()V" } : Jvm.MethodName) jdk_39_method_1_code (1 : Nat) (Option.none : Option Jvm.ClassFile.FieldType)).before args0 about1 = true := code_word (m := ⟨16, 0⟩) (meth := k16m0) (c := k16c0) (by decide +kernel) rfl rfl rfl (by decide +kernel)
set_option maxRecDepth 65536 in
theorem w_c10 : (Jvm.Cond.code ({ cls := "java/util/AbstractCollection", name := "<init>", desc := "()V" } : Jvm.MethodName) jdk_22_method_1_code (1 : Nat) (Option.none : Option Jvm.ClassFile.FieldType)).before args0 about1 = true := code_word (m := ⟨13, 0⟩) (meth := k13m0) (c := k13c0) (by decide +kernel) rfl rfl rfl (by decide +kernel)
set_option maxRecDepth 65536 in
theorem w_c11 : (Jvm.Cond.code ({ cls := "com/example/ledgerleaf/ledgerleaf/Findings", name := "isEmpty", desc := "()Z" } : Jvm.MethodName) prog_40_method_5_code (1 : Nat) (Option.some Jvm.ClassFile.FieldType.boolean)).before args0 about1 = true := code_word (m := ⟨11, 4⟩) (meth := k11m4) (c := k11c4) (by decide +kernel) rfl rfl rfl (by decide +kernel)
set_option maxRecDepth 65536 in
theorem w_c12 : (Jvm.Cond.code ({ cls := "com/example/ledgerleaf/ledgerleaf/Findings", name := "size", desc := "()J" } : Jvm.MethodName) prog_40_method_4_code (1 : Nat) (Option.some Jvm.ClassFile.FieldType.long)).before args0 about1 = true := code_word (m := ⟨11, 3⟩) (meth := k11m3) (c := k11c3) (by decide +kernel) rfl rfl rfl (by decide +kernel)
set_option maxRecDepth 65536 in
theorem w_c13 : (Jvm.Cond.code ({ cls := "com/example/ledgerleaf/ledgerleaf/Findings", name := "close", desc := "()V" } : Jvm.MethodName) prog_40_method_8_code (3 : Nat) (Option.none : Option Jvm.ClassFile.FieldType)).before args0 about1 = true := code_word (m := ⟨11, 5⟩) (meth := k11m5) (c := k11c5) (by decide +kernel) rfl rfl rfl (by decide +kernel)
set_option maxRecDepth 65536 in
theorem w_c14 : (Jvm.Cond.code ({ cls := "java/util/ArrayList", name := "iterator", desc := "()Ljava/util/Iterator;" } : Jvm.MethodName) jdk_38_method_55_code (1 : Nat) (Option.some (Jvm.ClassFile.FieldType.object "java/util/Iterator"))).before args0 about1 = true := code_word (m := ⟨19, 7⟩) (meth := k19m7) (c := k19c7) (by decide +kernel) rfl rfl rfl (by decide +kernel)
set_option maxRecDepth 65536 in
theorem w_c15 : (Jvm.Cond.code ({ cls := "java/util/ArrayList$Itr", name := "<init>", desc := "(Ljava/util/ArrayList;)V" } : Jvm.MethodName) jdk_49_method_1_code (2 : Nat) (Option.none : Option Jvm.ClassFile.FieldType)).before args0 about1 = true := code_word (m := ⟨21, 0⟩) (meth := k21m0) (c := k21c0) (by decide +kernel) rfl rfl rfl (by decide +kernel)
set_option maxRecDepth 65536 in
theorem w_c16 : (Jvm.Cond.code ({ cls := "java/util/ArrayList$Itr", name := "hasNext", desc := "()Z" } : Jvm.MethodName) jdk_49_method_2_code (1 : Nat) (Option.some Jvm.ClassFile.FieldType.boolean)).before args0 about1 = true := code_word (m := ⟨21, 1⟩) (meth := k21m1) (c := k21c1) (by decide +kernel) rfl rfl rfl (by decide +kernel)
set_option maxRecDepth 65536 in
theorem w_c17 : (Jvm.Cond.code ({ cls := "java/util/ArrayList", name := "clear", desc := "()V" } : Jvm.MethodName) jdk_38_method_40_code (4 : Nat) (Option.none : Option Jvm.ClassFile.FieldType)).before args0 about1 = true := code_word (m := ⟨19, 6⟩) (meth := k19m6) (c := k19c6) (by decide +kernel) rfl rfl rfl (by decide +kernel)
set_option maxRecDepth 65536 in
theorem w_c18 : (Jvm.Cond.code ({ cls := "com/example/ledgerleaf/ledgerleaf/Finding", name := "<init>", desc := "(ILjava/lang/String;)V" } : Jvm.MethodName) prog_39_method_1_code (3 : Nat) (Option.none : Option Jvm.ClassFile.FieldType)).before args0 about1 = true := code_word (m := ⟨23, 0⟩) (meth := k23m0) (c := k23c0) (by decide +kernel) rfl rfl rfl (by decide +kernel)
set_option maxRecDepth 65536 in
theorem w_c19 : (Jvm.Cond.code ({ cls := "java/lang/Record", name := "<init>", desc := "()V" } : Jvm.MethodName) jdk_30_method_1_code (1 : Nat) (Option.none : Option Jvm.ClassFile.FieldType)).before args0 about1 = true := code_word (m := ⟨22, 0⟩) (meth := k22m0) (c := k22c0) (by decide +kernel) rfl rfl rfl (by decide +kernel)
set_option maxRecDepth 65536 in
theorem w_c20 : (Jvm.Cond.code ({ cls := "com/example/ledgerleaf/ledgerleaf/Findings", name := "add", desc := "(Lcom/example/ledgerleaf/ledgerleaf/Finding;)V" } : Jvm.MethodName) prog_40_method_3_code (2 : Nat) (Option.none : Option Jvm.ClassFile.FieldType)).before args0 about1 = true := code_word (m := ⟨11, 2⟩) (meth := k11m2) (c := k11c2) (by decide +kernel) rfl rfl rfl (by decide +kernel)
set_option maxRecDepth 65536 in
theorem w_c21 : (Jvm.Cond.code ({ cls := "java/util/ArrayList", name := "add", desc := "(Ljava/lang/Object;)Z" } : Jvm.MethodName) jdk_38_method_25_code (2 : Nat) (Option.some Jvm.ClassFile.FieldType.boolean)).before args0 about1 = true := code_word (m := ⟨19, 5⟩) (meth := k19m5) (c := k19c5) (by decide +kernel) rfl rfl rfl (by decide +kernel)
set_option maxRecDepth 65536 in
theorem w_c22 : (Jvm.Cond.code ({ cls := "java/util/ArrayList", name := "add", desc := "(Ljava/lang/Object;[Ljava/lang/Object;I)V" } : Jvm.MethodName) jdk_38_method_24_code (4 : Nat) (Option.none : Option Jvm.ClassFile.FieldType)).before args0 about1 = true := code_word (m := ⟨19, 4⟩) (meth := k19m4) (c := k19c4) (by decide +kernel) rfl rfl rfl (by decide +kernel)
set_option maxRecDepth 65536 in
theorem w_c23 : (Jvm.Cond.code ({ cls := "java/util/ArrayList", name := "grow", desc := "()[Ljava/lang/Object;" } : Jvm.MethodName) jdk_38_method_7_code (1 : Nat) (Option.some (Jvm.ClassFile.FieldType.array (Jvm.ClassFile.FieldType.object "java/lang/Object")))).before args0 about1 = true := code_word (m := ⟨19, 2⟩) (meth := k19m2) (c := k19c2) (by decide +kernel) rfl rfl rfl (by decide +kernel)
set_option maxRecDepth 65536 in
theorem w_c24 : (Jvm.Cond.code ({ cls := "java/util/ArrayList", name := "grow", desc := "(I)[Ljava/lang/Object;" } : Jvm.MethodName) jdk_38_method_6_code (4 : Nat) (Option.some (Jvm.ClassFile.FieldType.array (Jvm.ClassFile.FieldType.object "java/lang/Object")))).before args0 about1 = true := code_word (m := ⟨19, 1⟩) (meth := k19m1) (c := k19c1) (by decide +kernel) rfl rfl rfl (by decide +kernel)
set_option maxRecDepth 65536 in
theorem w_c25 : (Jvm.Cond.code ({ cls := "java/lang/Math", name := "max", desc := "(II)I" } : Jvm.MethodName) jdk_29_method_65_code (2 : Nat) (Option.some Jvm.ClassFile.FieldType.int)).before args0 about1 = true := code_word (m := ⟨24, 1⟩) (meth := k24m1) (c := k24c1) (by decide +kernel) rfl rfl rfl (by decide +kernel)
set_option maxRecDepth 65536 in
theorem w_c26 : (Jvm.Cond.code ({ cls := "com/example/ledgerleaf/ledgerleaf/Finding", name := "message", desc := "()Ljava/lang/String;" } : Jvm.MethodName) prog_39_method_12_code (1 : Nat) (Option.some (Jvm.ClassFile.FieldType.object "java/lang/String"))).before args0 about1 = true := code_word (m := ⟨23, 1⟩) (meth := k23m1) (c := k23c1) (by decide +kernel) rfl rfl rfl (by decide +kernel)
set_option maxRecDepth 65536 in
theorem w_c27 : (Jvm.Cond.code ({ cls := "java/lang/String", name := "length", desc := "()I" } : Jvm.MethodName) jdk_42_method_54_code (1 : Nat) (Option.some Jvm.ClassFile.FieldType.int)).before args0 about1 = true := code_word (m := ⟨7, 2⟩) (meth := k7m2) (c := k7c2) (by decide +kernel) rfl rfl rfl (by decide +kernel)
set_option maxRecDepth 65536 in
theorem w_c28 : (Jvm.Cond.code ({ cls := "java/lang/String", name := "coder", desc := "()B" } : Jvm.MethodName) jdk_42_method_152_code (1 : Nat) (Option.some Jvm.ClassFile.FieldType.byte)).before args0 about1 = true := code_word (m := ⟨7, 4⟩) (meth := k7m4) (c := k7c4) (by decide +kernel) rfl rfl rfl (by decide +kernel)
set_option maxRecDepth 65536 in
theorem w_c29 : (Jvm.Cond.code ({ cls := "java/util/ArrayList", name := "size", desc := "()I" } : Jvm.MethodName) jdk_38_method_8_code (1 : Nat) (Option.some Jvm.ClassFile.FieldType.int)).before args0 about1 = true := code_word (m := ⟨19, 3⟩) (meth := k19m3) (c := k19c3) (by decide +kernel) rfl rfl rfl (by decide +kernel)
def codes1 : List Jvm.Cond := [Jvm.Cond.code x code maxLocals ret, Jvm.Cond.code ({ cls := "java/lang/String", name := "<init>", desc := "([C)V" } : Jvm.MethodName) jdk_42_method_3_code (2 : Nat) (Option.none : Option Jvm.ClassFile.FieldType), Jvm.Cond.code ({ cls := "java/lang/String", name := "<init>", desc := "([CIILjava/lang/Void;)V" } : Jvm.MethodName) jdk_42_method_149_code (6 : Nat) (Option.none : Option Jvm.ClassFile.FieldType), Jvm.Cond.code ({ cls := "java/lang/Object", name := "<init>", desc := "()V" } : Jvm.MethodName) object_method_1_code (1 : Nat) (Option.none : Option Jvm.ClassFile.FieldType), Jvm.Cond.code ({ cls := "java/lang/StringUTF16", name := "compress", desc := "([CII)[B" } : Jvm.MethodName) jdk_52_method_16_code (6 : Nat) (Option.some (Jvm.ClassFile.FieldType.array Jvm.ClassFile.FieldType.byte)), Jvm.Cond.code ({ cls := "java/lang/StringUTF16", name := "compress", desc := "([CI[BII)I" } : Jvm.MethodName) jdk_52_method_21_code (7 : Nat) (Option.some Jvm.ClassFile.FieldType.int), Jvm.Cond.code ({ cls := "java/lang/StringUTF16", name := "coderFromArrayLen", desc := "([BI)B" } : Jvm.MethodName) jdk_52_method_15_code (2 : Nat) (Option.some Jvm.ClassFile.FieldType.byte), Jvm.Cond.code ({ cls := "com/example/ledgerleaf/ledgerleaf/Findings", name := "<init>", desc := "(II)V" } : Jvm.MethodName) prog_40_method_2_code (3 : Nat) (Option.none : Option Jvm.ClassFile.FieldType), Jvm.Cond.code ({ cls := "java/util/ArrayList", name := "<init>", desc := "()V" } : Jvm.MethodName) jdk_38_method_2_code (1 : Nat) (Option.none : Option Jvm.ClassFile.FieldType), Jvm.Cond.code ({ cls := "java/util/AbstractList", name := "<init>", desc := "()V" } : Jvm.MethodName) jdk_39_method_1_code (1 : Nat) (Option.none : Option Jvm.ClassFile.FieldType), Jvm.Cond.code ({ cls := "java/util/AbstractCollection", name := "<init>", desc := "()V" } : Jvm.MethodName) jdk_22_method_1_code (1 : Nat) (Option.none : Option Jvm.ClassFile.FieldType), Jvm.Cond.code ({ cls := "com/example/ledgerleaf/ledgerleaf/Findings", name := "isEmpty", desc := "()Z" } : Jvm.MethodName) prog_40_method_5_code (1 : Nat) (Option.some Jvm.ClassFile.FieldType.boolean), Jvm.Cond.code ({ cls := "com/example/ledgerleaf/ledgerleaf/Findings", name := "size", desc := "()J" } : Jvm.MethodName) prog_40_method_4_code (1 : Nat) (Option.some Jvm.ClassFile.FieldType.long), Jvm.Cond.code ({ cls := "com/example/ledgerleaf/ledgerleaf/Findings", name := "close", desc := "()V" } : Jvm.MethodName) prog_40_method_8_code (3 : Nat) (Option.none : Option Jvm.ClassFile.FieldType), Jvm.Cond.code ({ cls := "java/util/ArrayList", name := "iterator", desc := "()Ljava/util/Iterator;" } : Jvm.MethodName) jdk_38_method_55_code (1 : Nat) (Option.some (Jvm.ClassFile.FieldType.object "java/util/Iterator")), Jvm.Cond.code ({ cls := "java/util/ArrayList$Itr", name := "<init>", desc := "(Ljava/util/ArrayList;)V" } : Jvm.MethodName) jdk_49_method_1_code (2 : Nat) (Option.none : Option Jvm.ClassFile.FieldType), Jvm.Cond.code ({ cls := "java/util/ArrayList$Itr", name := "hasNext", desc := "()Z" } : Jvm.MethodName) jdk_49_method_2_code (1 : Nat) (Option.some Jvm.ClassFile.FieldType.boolean), Jvm.Cond.code ({ cls := "java/util/ArrayList", name := "clear", desc := "()V" } : Jvm.MethodName) jdk_38_method_40_code (4 : Nat) (Option.none : Option Jvm.ClassFile.FieldType), Jvm.Cond.code ({ cls := "com/example/ledgerleaf/ledgerleaf/Finding", name := "<init>", desc := "(ILjava/lang/String;)V" } : Jvm.MethodName) prog_39_method_1_code (3 : Nat) (Option.none : Option Jvm.ClassFile.FieldType), Jvm.Cond.code ({ cls := "java/lang/Record", name := "<init>", desc := "()V" } : Jvm.MethodName) jdk_30_method_1_code (1 : Nat) (Option.none : Option Jvm.ClassFile.FieldType), Jvm.Cond.code ({ cls := "com/example/ledgerleaf/ledgerleaf/Findings", name := "add", desc := "(Lcom/example/ledgerleaf/ledgerleaf/Finding;)V" } : Jvm.MethodName) prog_40_method_3_code (2 : Nat) (Option.none : Option Jvm.ClassFile.FieldType), Jvm.Cond.code ({ cls := "java/util/ArrayList", name := "add", desc := "(Ljava/lang/Object;)Z" } : Jvm.MethodName) jdk_38_method_25_code (2 : Nat) (Option.some Jvm.ClassFile.FieldType.boolean), Jvm.Cond.code ({ cls := "java/util/ArrayList", name := "add", desc := "(Ljava/lang/Object;[Ljava/lang/Object;I)V" } : Jvm.MethodName) jdk_38_method_24_code (4 : Nat) (Option.none : Option Jvm.ClassFile.FieldType), Jvm.Cond.code ({ cls := "java/util/ArrayList", name := "grow", desc := "()[Ljava/lang/Object;" } : Jvm.MethodName) jdk_38_method_7_code (1 : Nat) (Option.some (Jvm.ClassFile.FieldType.array (Jvm.ClassFile.FieldType.object "java/lang/Object"))), Jvm.Cond.code ({ cls := "java/util/ArrayList", name := "grow", desc := "(I)[Ljava/lang/Object;" } : Jvm.MethodName) jdk_38_method_6_code (4 : Nat) (Option.some (Jvm.ClassFile.FieldType.array (Jvm.ClassFile.FieldType.object "java/lang/Object"))), Jvm.Cond.code ({ cls := "java/lang/Math", name := "max", desc := "(II)I" } : Jvm.MethodName) jdk_29_method_65_code (2 : Nat) (Option.some Jvm.ClassFile.FieldType.int), Jvm.Cond.code ({ cls := "com/example/ledgerleaf/ledgerleaf/Finding", name := "message", desc := "()Ljava/lang/String;" } : Jvm.MethodName) prog_39_method_12_code (1 : Nat) (Option.some (Jvm.ClassFile.FieldType.object "java/lang/String")), Jvm.Cond.code ({ cls := "java/lang/String", name := "length", desc := "()I" } : Jvm.MethodName) jdk_42_method_54_code (1 : Nat) (Option.some Jvm.ClassFile.FieldType.int), Jvm.Cond.code ({ cls := "java/lang/String", name := "coder", desc := "()B" } : Jvm.MethodName) jdk_42_method_152_code (1 : Nat) (Option.some Jvm.ClassFile.FieldType.byte), Jvm.Cond.code ({ cls := "java/util/ArrayList", name := "size", desc := "()I" } : Jvm.MethodName) jdk_38_method_8_code (1 : Nat) (Option.some Jvm.ClassFile.FieldType.int)]
set_option maxRecDepth 65536 in
theorem codes_eq : words1.filter isCode = codes1 := rfl
theorem w_codes : ∀ c ∈ words1.filter isCode, c.before args0 about1 = true := by
  rw [codes_eq]
  intro c hc
  simp only [codes1, List.mem_cons, List.not_mem_nil, or_false] at hc
  rcases hc with rfl | rfl | rfl | rfl | rfl | rfl | rfl | rfl | rfl | rfl | rfl | rfl | rfl | rfl | rfl | rfl | rfl | rfl | rfl | rfl | rfl | rfl | rfl | rfl | rfl | rfl | rfl | rfl | rfl | rfl
  · exact w_c0
  · exact w_c1
  · exact w_c2
  · exact w_c3
  · exact w_c4
  · exact w_c5
  · exact w_c6
  · exact w_c7
  · exact w_c8
  · exact w_c9
  · exact w_c10
  · exact w_c11
  · exact w_c12
  · exact w_c13
  · exact w_c14
  · exact w_c15
  · exact w_c16
  · exact w_c17
  · exact w_c18
  · exact w_c19
  · exact w_c20
  · exact w_c21
  · exact w_c22
  · exact w_c23
  · exact w_c24
  · exact w_c25
  · exact w_c26
  · exact w_c27
  · exact w_c28
  · exact w_c29
set_option maxRecDepth 65536 in
theorem w_t1 : (words1.take 24).all (fun c => isCode c || c.before args0 about1) = true := by decide +kernel
set_option maxRecDepth 65536 in
theorem w_t2 : ((words1.drop 24).take 24).all (fun c => isCode c || c.before args0 about1) = true := by decide +kernel
set_option maxRecDepth 65536 in
theorem w_t3 : (((words1.drop 24).drop 24).take 24).all (fun c => isCode c || c.before args0 about1) = true := by decide +kernel
set_option maxRecDepth 65536 in
theorem w_t4 : ((((words1.drop 24).drop 24).drop 24).take 24).all (fun c => isCode c || c.before args0 about1) = true := by decide +kernel
set_option maxRecDepth 65536 in
theorem w_t5 : (((((words1.drop 24).drop 24).drop 24).drop 24).take 24).all (fun c => isCode c || c.before args0 about1) = true := by decide +kernel
set_option maxRecDepth 65536 in
theorem w_t6 : ((((((words1.drop 24).drop 24).drop 24).drop 24).drop 24).take 24).all (fun c => isCode c || c.before args0 about1) = true := by decide +kernel
set_option maxRecDepth 65536 in
theorem w_t7 : (((((((words1.drop 24).drop 24).drop 24).drop 24).drop 24).drop 24).take 24).all (fun c => isCode c || c.before args0 about1) = true := by decide +kernel
set_option maxRecDepth 65536 in
theorem w_t8 : ((((((((words1.drop 24).drop 24).drop 24).drop 24).drop 24).drop 24).drop 24).take 24).all (fun c => isCode c || c.before args0 about1) = true := by decide +kernel
set_option maxRecDepth 65536 in
theorem w_t9 : ((((((((words1.drop 24).drop 24).drop 24).drop 24).drop 24).drop 24).drop 24).drop 24).all (fun c => isCode c || c.before args0 about1) = true := by decide +kernel
theorem w_tables : (allAtoms (Jvm.Cond.code x code maxLocals ret :: tables_1)).before args0 about1 = true := by
  rw [allAtoms_all]
  show words1.all (fun c => c.before args0 about1) = true
  refine all_split ?_ w_codes
  rw [← List.take_append_drop 24 words1, List.all_append, w_t1, ← List.take_append_drop 24 (words1.drop 24), List.all_append, w_t2, ← List.take_append_drop 24 ((words1.drop 24).drop 24), List.all_append, w_t3, ← List.take_append_drop 24 (((words1.drop 24).drop 24).drop 24), List.all_append, w_t4, ← List.take_append_drop 24 ((((words1.drop 24).drop 24).drop 24).drop 24), List.all_append, w_t5, ← List.take_append_drop 24 (((((words1.drop 24).drop 24).drop 24).drop 24).drop 24), List.all_append, w_t6, ← List.take_append_drop 24 ((((((words1.drop 24).drop 24).drop 24).drop 24).drop 24).drop 24), List.all_append, w_t7, ← List.take_append_drop 24 (((((((words1.drop 24).drop 24).drop 24).drop 24).drop 24).drop 24).drop 24), List.all_append, w_t8, w_t9]
  rfl
set_option maxRecDepth 65536 in
theorem w_rest : rest_1_c.before args0 about1 = true := by decide +kernel
set_option maxRecDepth 65536 in
theorem w_case : (Jvm.Cond.and given_1 narrow_1).before args0 about1 = true := by decide +kernel
theorem w_applies : (headSpec (Jvm.Cond.code x code maxLocals ret :: tables_1) room_1).applies x e0.platform about1 = true :=
  (Spec.applies_iff w_frames).mpr ⟨w_running, w_runnable, w_alone, w_named, w_hears, w_ripe, w_room, w_tables⟩
theorem atStart : AtStart classFile x code maxLocals ret World_1 tables_1 room_1 Calls_1 rest_1 Pre_1 launch0 p0 e0 about1 theMethod args0 below0 :=
  ⟨lists_1, trivial, launch0.admits_env _ _ _, launch0.least_env, fairChoices_fair.cas, fairChoices_fair.clock, w_frames, w_args, w_heap, w_applies, trivial, w_rest, w_case⟩
end start1
theorem witness_1 : WitnessClaimed_1 := ⟨start1.p0, start1.e0, start1.about1, start1.theMethod, start1.args0, start1.below0, start1.atStart⟩
end Jvm.Pilot.@@N@@
