import JvmDerived
import JvmDerived.Pilot.@@N@@Statement
import JvmDerived.Pilot.@@N@@Code
set_option linter.unusedVariables false
set_option linter.unusedSimpArgs false
/- laws to paste: Road.backV, Road.eqW, Road.codOf (cut by pick.py; bodies as the Statement names them) -/
namespace Jvm.Pilot.@@N@@
namespace StrChars
open Jvm Sem ClassFile Op Lib Jvm.Stand Jvm.Free.XT Jvm.Free.ALB Jvm.Free.JM Jvm.Free
open Jvm.Lib.Cold (StaticIs)
/-- a char array whose places are chars -/
def Ch (a : Addr) (A : Cell) (U : State) : Prop := Arr .char a A U ∧ Typed .char A
theorem Ch.mv {a : Addr} {A : Cell} {U U' : State} (h : Ch a A U) (hal : U.vm.Alike U'.vm) (hh : U'.heap = U.heap) : Ch a A U' := ⟨h.1.mv hal hh, h.2⟩
theorem Ch.keep {a : Addr} {A : Cell} {U U' : State} (h : Ch a A U) (hal : U.vm.Alike U'.vm) (hk : U'.heap[a]? = some A) : Ch a A U' := ⟨h.1.keep hal hk, h.2⟩
/-- what place i of a char[]'s cell holds -/
def cv (A : Cell) (i : Nat) : Int32 := match A.slots[i]? with | some (.int x) => x | _ => 0
theorem Ch.get {a : Addr} {A : Cell} {U : State} (h : Ch a A U) {i : Nat} (hi : i < A.slots.size) : A.slots[i]? = some (.int (cv A i)) := by
  have e := Array.getElem?_eq_getElem hi
  have f := h.2 i _ e
  unfold cv; rw [e]
  generalize A.slots[i] = v at f
  cases v <;> simp [fits] at f ⊢
/-- the byte that i2b leaves of a char -/
def lo8 (x : Int32) : Int32 := x.toInt8.toInt32
theorem fits_lo8 (y : Int32) : fits .byte (.int (lo8 y)) = true := by
  have h1 := y.toInt8.le_toInt
  have h2 := y.toInt8.toInt_lt
  simp only [lo8, fits, Bool.and_eq_true, decide_eq_true_eq, Int32.le_iff_toInt_le, Int8.toInt_toInt32, show (-128 : Int32).toInt = -128 from by decide, show (127 : Int32).toInt = 127 from by decide]
  omega
/-- A' is A but that each place j of lo .. hi - 1 holds f j -/
def Laid (A A' : Cell) (lo hi : Nat) (f : Nat → Value) : Prop := A'.cls = A.cls ∧ A'.vm = A.vm ∧ A'.slots.size = A.slots.size ∧ ∀ i, A'.slots[i]? = if lo ≤ i ∧ i < hi then some (f i) else A.slots[i]?
theorem Laid.zero (A : Cell) (lo : Nat) (f : Nat → Value) : Laid A A lo (lo + 0) f := ⟨rfl, rfl, rfl, fun i => by rw [if_neg (by omega)]⟩
theorem Laid.step {A Ak : Cell} {lo k : Nat} {f : Nat → Value} {v : Value} (h : Laid A Ak lo k f) (hlo : lo ≤ k) (hk : k < Ak.slots.size) (hv : v = f k) : Laid A (Ak.setSlot k v) lo (k + 1) f := by
  refine ⟨h.1, h.2.1, by simpa [Cell.setSlot] using h.2.2.1, fun i => ?_⟩
  by_cases e : k = i
  · subst e; rw [Cell.slots_setSlot_self v hk, if_pos (by omega), hv]
  · rw [Cell.slots_setSlot_ne v e, h.2.2.2 i]
    by_cases q : lo ≤ i ∧ i < k
    · rw [if_pos q, if_pos (by omega)]
    · rw [if_neg q, if_neg (by omega)]
def U16 : String := "java/lang/StringUTF16"
namespace Cmp5
def yN : MethodName := ⟨"java/lang/StringUTF16", "compress", "([CI[BII)I"⟩
abbrev yB : ByteArray := jdk_52_method_21_code
theorem d0 : decode yB 0 = .ok (.iconst 0, 1) := by decide +kernel
theorem d1 : decode yB 1 = .ok (.istore 5, 2) := by decide +kernel
theorem d3 : decode yB 3 = .ok (.iload 5, 2) := by decide +kernel
theorem d5 : decode yB 5 = .ok (.iload 4, 2) := by decide +kernel
theorem d7 : decode yB 7 = .ok (.if_icmp (.ge) 37, 3) := by decide +kernel
theorem d10 : decode yB 10 = .ok (.aload_n 0, 1) := by decide +kernel
theorem d11 : decode yB 11 = .ok (.iload_n 1, 1) := by decide +kernel
theorem d12 : decode yB 12 = .ok (.caload, 1) := by decide +kernel
theorem d13 : decode yB 13 = .ok (.istore 6, 2) := by decide +kernel
theorem d15 : decode yB 15 = .ok (.iload 6, 2) := by decide +kernel
theorem d17 : decode yB 17 = .ok (.sipush 255, 3) := by decide +kernel
theorem d20 : decode yB 20 = .ok (.if_icmp (.le) 6, 3) := by decide +kernel
theorem d26 : decode yB 26 = .ok (.aload_n 2, 1) := by decide +kernel
theorem d27 : decode yB 27 = .ok (.iload_n 3, 1) := by decide +kernel
theorem d28 : decode yB 28 = .ok (.iload 6, 2) := by decide +kernel
theorem d30 : decode yB 30 = .ok (.i2b, 1) := by decide +kernel
theorem d31 : decode yB 31 = .ok (.bastore, 1) := by decide +kernel
theorem d32 : decode yB 32 = .ok (.iinc 1 1, 3) := by decide +kernel
theorem d35 : decode yB 35 = .ok (.iinc 3 1, 3) := by decide +kernel
theorem d38 : decode yB 38 = .ok (.iinc 5 1, 3) := by decide +kernel
theorem d41 : decode yB 41 = .ok (.goto (-38), 3) := by decide +kernel
theorem d44 : decode yB 44 = .ok (.iload 4, 2) := by decide +kernel
theorem d46 : decode yB 46 = .ok (.ireturn, 1) := by decide +kernel
def site : List Cond := []
def tab : Cond := tabOf yN yB 7 (some .int) site
def P (b : Addr) (A : Cell) (d : Addr) (B : Cell) (o q len : Nat) (args : Array Value) (s : State) : Prop := args = #[.ref b, .int (Int32.ofNat o), .ref d, .int (Int32.ofNat q), .int (Int32.ofNat len)] ∧ Ch b A s ∧ Arr .byte d B s ∧ b ≠ d ∧ o + len ≤ A.slots.size ∧ q + len ≤ B.slots.size ∧ ∀ i, i < len → ¬ 255 < cv A (o + i)
def E (b : Addr) (A : Cell) (d : Addr) (B : Cell) (o q len : Nat) (r : Option Value) (s u : State) : Prop := r = some (.int (Int32.ofNat len)) ∧ ∃ B', Put d B' s u ∧ Laid B B' q (q + len) (fun j => Value.int (lo8 (cv A (o + (j - q)))))
/-- no char of the range above 255: len; the places written hold each char's low byte -/
theorem law (l : Launch) (b : Addr) (A : Cell) (d : Addr) (B : Cell) (o q len : Nat) : Law l yN 5 5 0 0 yB 7 (some .int) site (P b A d B o q len) (E b A d B o q len) (copyLocs d q len) 0 0 := by
  refine Law.of_walk (plainFor_of_name (by decide +kernel)) (by decide +kernel) (by decide +kernel) (by decide) (fun _ _ h => by rw [h.1]; rfl) (fun _ U U' hal hh h => ⟨h.1, h.2.1.mv hal hh, h.2.2.1.mv hal hh, h.2.2.2⟩) (fun r U U' V V' h1 hal h2 h => ⟨h.1, h.2.elim fun B' q => ⟨B', q.1.mv h1 h2, q.2⟩⟩) ?_
  intro p e s m args below meth c s₁ X0 hexec hbytes hml hret hlk hnm hown hh0 W hP
  obtain ⟨rfl, hA, hB, hne, l1, l2, hp⟩ := hP
  have c1 : Steps p.tables e below (s₁.setTop (entryFrame m #[.ref b, .int (Int32.ofNat o), .ref d, .int (Int32.ofNat q), .int (Int32.ofNat len)] 7)) (s₁.setTop (mkF m 0 #[.val (.ref b), .val (.int (Int32.ofNat o)), .val (.ref d), .val (.int (Int32.ofNat q)), .val (.int (Int32.ofNat len)), .unset, .unset] [])) := entry rfl
  have hA0 := hA.1.mv X0.warmed.alike hh0
  have hB0 := hB.mv X0.warmed.alike hh0
  have a31 := hA.1.2.2.2
  have c2 : Steps p.tables e below (s₁.setTop (entryFrame m #[.ref b, .int (Int32.ofNat o), .ref d, .int (Int32.ofNat q), .int (Int32.ofNat len)] 7)) (s₁.setTop (mkF m 3 #[.val (.ref b), .val (.int (Int32.ofNat o)), .val (.ref d), .val (.int (Int32.ofNat q)), .val (.int (Int32.ofNat len)), .val (.int 0), .unset] [])) := c1.trans (by
    refine iconstV X0.here hexec rfl 0 (hb hbytes d0) (by decide) ?_
    refine XS.istore X0.here hexec rfl (hb hbytes d1) rfl rfl ?_
    exact Steps.refl _)
  have loop : ∀ (r i : Nat), i + r = len → ∀ (z : Slot), (z = .unset ∨ ∃ w, z = .val w ∧ w.category = 1) → ∀ (Tl : State) (Bk : Cell), Stand p l e { frames := 0, locals := 0, cells := 0, slots := 0 } s m #[.ref b, .int (Int32.ofNat o), .ref d, .int (Int32.ofNat q), .int (Int32.ofNat len)] below meth c Tl ([] ++ copyLocs d q i) 0 0 → Put d Bk s₁ Tl → Laid B Bk q (q + i) (fun j => Value.int (lo8 (cv A (o + (j - q))))) →
      Steps p.tables e below (s₁.setTop (entryFrame m #[.ref b, .int (Int32.ofNat o), .ref d, .int (Int32.ofNat q), .int (Int32.ofNat len)] 7)) (Tl.setTop (mkF m 3 #[.val (.ref b), .val (.int (Int32.ofNat (o + i))), .val (.ref d), .val (.int (Int32.ofNat (q + i))), .val (.int (Int32.ofNat len)), .val (.int (Int32.ofNat i)), z] [])) → ∃ (T' : State) (B' : Cell) (z' : Slot), Stand p l e { frames := 0, locals := 0, cells := 0, slots := 0 } s m #[.ref b, .int (Int32.ofNat o), .ref d, .int (Int32.ofNat q), .int (Int32.ofNat len)] below meth c T' ([] ++ copyLocs d q len) 0 0 ∧ Put d B' s₁ T' ∧ Laid B B' q (q + len) (fun j => Value.int (lo8 (cv A (o + (j - q))))) ∧
      Steps p.tables e below (s₁.setTop (entryFrame m #[.ref b, .int (Int32.ofNat o), .ref d, .int (Int32.ofNat q), .int (Int32.ofNat len)] 7)) (T'.setTop (mkF m 3 #[.val (.ref b), .val (.int (Int32.ofNat (o + len))), .val (.ref d), .val (.int (Int32.ofNat (q + len))), .val (.int (Int32.ofNat len)), .val (.int (Int32.ofNat len)), z'] [])) := by
    intro r
    induction r with
    | zero =>
      intro i hi z hz Tl Bk Xl pl fl cl
      have hil : i = len := by omega
      rw [hil] at Xl fl cl
      exact ⟨Tl, Bk, z, Xl, pl, fl, cl⟩
    | succ r ih =>
      intro i hi z hz Tl Bk Xl pl fl cl
      have all := X0.warmed.alike.symm.trans Xl.warmed.alike
      have hAl := hA0.keep all (pl.other hne hA0.1)
      have hBk := hB0.like all pl.1 fl.1 fl.2.1 fl.2.2.1
      have hlt : q + i < Bk.slots.size := by rw [fl.2.2.1]; omega
      have c3 : Steps p.tables e below (s₁.setTop (entryFrame m #[.ref b, .int (Int32.ofNat o), .ref d, .int (Int32.ofNat q), .int (Int32.ofNat len)] 7)) (Tl.setTop (mkF m 12 #[.val (.ref b), .val (.int (Int32.ofNat (o + i))), .val (.ref d), .val (.int (Int32.ofNat (q + i))), .val (.int (Int32.ofNat len)), .val (.int (Int32.ofNat i)), z] [.int (Int32.ofNat (o + i)), .ref b])) := cl.trans (by
        refine XS.iload Xl.here hexec rfl (hb hbytes d3) rfl ?_
        refine XS.iload Xl.here hexec rfl (hb hbytes d5) rfl ?_
        refine XS.icmpNo Xl.here hexec rfl (hb hbytes d7) rfl (ii_ge_f (lt32 (by omega) (by omega))) ?_
        refine XS.aloadN Xl.here hexec rfl (hb hbytes d10) rfl rfl ?_
        refine XS.iloadN Xl.here hexec rfl (hb hbytes d11) rfl ?_
        exact Steps.refl _)
      have c4 : Steps p.tables e below (s₁.setTop (entryFrame m #[.ref b, .int (Int32.ofNat o), .ref d, .int (Int32.ofNat q), .int (Int32.ofNat len)] 7)) (Tl.setTop (mkF m 13 #[.val (.ref b), .val (.int (Int32.ofNat (o + i))), .val (.ref d), .val (.int (Int32.ofNat (q + i))), .val (.int (Int32.ofNat len)), .val (.int (Int32.ofNat i)), z] [.int (cv A (o + i))])) := c3.trans (by
        refine Xl.aget hexec hAl rfl (hA.get (i := o + i) (by omega)) rfl rfl (hb hbytes d12) ?_
        exact Steps.refl _)
      have c5 : Steps p.tables e below (s₁.setTop (entryFrame m #[.ref b, .int (Int32.ofNat o), .ref d, .int (Int32.ofNat q), .int (Int32.ofNat len)] 7)) (Tl.setTop (mkF m 15 #[.val (.ref b), .val (.int (Int32.ofNat (o + i))), .val (.ref d), .val (.int (Int32.ofNat (q + i))), .val (.int (Int32.ofNat len)), .val (.int (Int32.ofNat i)), .val (.int (cv A (o + i)))] [])) := c4.trans (by
        refine XS.istoreS Xl.here hexec rfl (hb hbytes d13) rfl rfl hz ?_
        exact Steps.refl _)
      have c6 : Steps p.tables e below (s₁.setTop (entryFrame m #[.ref b, .int (Int32.ofNat o), .ref d, .int (Int32.ofNat q), .int (Int32.ofNat len)] 7)) (Tl.setTop (mkF m 31 #[.val (.ref b), .val (.int (Int32.ofNat (o + i))), .val (.ref d), .val (.int (Int32.ofNat (q + i))), .val (.int (Int32.ofNat len)), .val (.int (Int32.ofNat i)), .val (.int (cv A (o + i)))] [.int (lo8 (cv A (o + i))), .int (Int32.ofNat (q + i)), .ref d])) := c5.trans (by
        refine XS.iload Xl.here hexec rfl (hb hbytes d15) rfl ?_
        refine sipushV Xl.here hexec rfl 255 (hb hbytes d17) (by decide) ?_
        refine XS.icmpYes Xl.here hexec rfl (pc0 := 20) rfl (hb hbytes d20) rfl (ii_le_t (hp i (by omega))) (by decide) rfl ?_
        refine XS.aloadN Xl.here hexec rfl (hb hbytes d26) rfl rfl ?_
        refine XS.iloadN Xl.here hexec rfl (hb hbytes d27) rfl ?_
        refine XS.iload Xl.here hexec rfl (hb hbytes d28) rfl ?_
        refine i2b Xl.here hexec rfl (hb hbytes d30) rfl ?_
        exact Steps.refl _)
      obtain ⟨T7, X7, p7, st7⟩ := Xl.aput hexec hBk rfl hlt rfl (fits_lo8 (cv A (o + i))) (g := (mkF m 31 #[.val (.ref b), .val (.int (Int32.ofNat (o + i))), .val (.ref d), .val (.int (Int32.ofNat (q + i))), .val (.int (Int32.ofNat len)), .val (.int (Int32.ofNat i)), .val (.int (cv A (o + i)))] [.int (lo8 (cv A (o + i))), .int (Int32.ofNat (q + i)), .ref d])) rfl (rest := []) rfl (hb hbytes d31)
      have c8 : Steps p.tables e below (s₁.setTop (entryFrame m #[.ref b, .int (Int32.ofNat o), .ref d, .int (Int32.ofNat q), .int (Int32.ofNat len)] 7)) (T7.setTop (mkF m 32 #[.val (.ref b), .val (.int (Int32.ofNat (o + i))), .val (.ref d), .val (.int (Int32.ofNat (q + i))), .val (.int (Int32.ofNat len)), .val (.int (Int32.ofNat i)), .val (.int (cv A (o + i)))] [])) := c6.trans (st7 _ (Steps.refl _))
      have c9 : Steps p.tables e below (s₁.setTop (entryFrame m #[.ref b, .int (Int32.ofNat o), .ref d, .int (Int32.ofNat q), .int (Int32.ofNat len)] 7)) (T7.setTop (mkF m 3 #[.val (.ref b), .val (.int (Int32.ofNat (o + i) + 1)), .val (.ref d), .val (.int (Int32.ofNat (q + i) + 1)), .val (.int (Int32.ofNat len)), .val (.int (Int32.ofNat i + 1)), .val (.int (cv A (o + i)))] [])) := c8.trans (by
        refine iincV X7.here hexec rfl 1 (hb hbytes d32) (by decide) rfl rfl ?_
        refine iincV X7.here hexec rfl 1 (hb hbytes d35) (by decide) rfl rfl ?_
        refine iincV X7.here hexec rfl 1 (hb hbytes d38) (by decide) rfl rfl ?_
        refine XS.goto X7.here hexec rfl (pc0 := 41) rfl (hb hbytes d41) (by decide) rfl ?_
        exact Steps.refl _)
      have c10 : Steps p.tables e below (s₁.setTop (entryFrame m #[.ref b, .int (Int32.ofNat o), .ref d, .int (Int32.ofNat q), .int (Int32.ofNat len)] 7)) (T7.setTop (mkF m 3 #[.val (.ref b), .val (.int (Int32.ofNat (o + (i + 1)))), .val (.ref d), .val (.int (Int32.ofNat (q + (i + 1)))), .val (.int (Int32.ofNat len)), .val (.int (Int32.ofNat (i + 1))), .val (.int (cv A (o + i)))] [])) := by
        have := c9
        rw [succ32, succ32, succ32] at this
        exact this
      exact ih (i + 1) (by omega) _ (Or.inr ⟨_, rfl, rfl⟩) T7 _ (by rw [copyLocs_step, ← List.append_assoc]; exact X7) (pl.trans p7) (fl.step (by omega) hlt (by simp)) c10
  obtain ⟨T9, B9, z9, X9, p9, f9, g9⟩ := loop len 0 (by omega) .unset (Or.inl rfl) s₁ B (by simpa [copyLocs] using X0) ⟨hB0.1, fun _ _ => rfl, rfl⟩ (Laid.zero _ _ _) c2
  have c11 : Steps p.tables e below (s₁.setTop (entryFrame m #[.ref b, .int (Int32.ofNat o), .ref d, .int (Int32.ofNat q), .int (Int32.ofNat len)] 7)) (T9.setTop (mkF m 46 #[.val (.ref b), .val (.int (Int32.ofNat (o + len))), .val (.ref d), .val (.int (Int32.ofNat (q + len))), .val (.int (Int32.ofNat len)), .val (.int (Int32.ofNat len)), z9] [.int (Int32.ofNat len)])) := g9.trans (by
    refine XS.iload X9.here hexec rfl (hb hbytes d3) rfl ?_
    refine XS.iload X9.here hexec rfl (hb hbytes d5) rfl ?_
    refine XS.icmpYes X9.here hexec rfl (pc0 := 7) rfl (hb hbytes d7) rfl (ii_ge_t (nlt32 (by omega) (Nat.le_refl _))) (by decide) rfl ?_
    refine XS.iload X9.here hexec rfl (hb hbytes d44) rfl ?_
    exact Steps.refl _)
  exact ⟨T9, some (.int (Int32.ofNat len)), _, _, _, X9, by simp, rfl, rfl, (fun h => by cases h), ⟨rfl, B9, p9.from hh0, f9⟩, fun fs hl => c11.trans (X9.ireturnOut hexec hret rfl (Or.inl rfl) (hb hbytes d46) hl)⟩
end Cmp5
namespace Cmp3
def yN : MethodName := ⟨"java/lang/StringUTF16", "compress", "([CII)[B"⟩
abbrev yB : ByteArray := jdk_52_method_16_code
theorem d0 : decode yB 0 = .ok (.iload_n 2, 1) := by decide +kernel
theorem d1 : decode yB 1 = .ok (.newarray .byte, 2) := by decide +kernel
theorem d3 : decode yB 3 = .ok (.astore_n 3, 1) := by decide +kernel
theorem d4 : decode yB 4 = .ok (.aload_n 0, 1) := by decide +kernel
theorem d5 : decode yB 5 = .ok (.iload_n 1, 1) := by decide +kernel
theorem d6 : decode yB 6 = .ok (.aload_n 3, 1) := by decide +kernel
theorem d7 : decode yB 7 = .ok (.iconst 0, 1) := by decide +kernel
theorem d8 : decode yB 8 = .ok (.iload_n 2, 1) := by decide +kernel
theorem d9 : decode yB 9 = .ok (.invokestatic 115, 3) := by decide +kernel
theorem d12 : decode yB 12 = .ok (.istore 4, 2) := by decide +kernel
theorem d14 : decode yB 14 = .ok (.iload 4, 2) := by decide +kernel
theorem d16 : decode yB 16 = .ok (.iload_n 2, 1) := by decide +kernel
theorem d17 : decode yB 17 = .ok (.if_icmp (.eq) 40, 3) := by decide +kernel
theorem d57 : decode yB 57 = .ok (.aload_n 3, 1) := by decide +kernel
theorem d58 : decode yB 58 = .ok (.areturn, 1) := by decide +kernel
def site : List Cond := [.arrayClass .byte, Cmp5.tab] ++ staticW U16 115 Cmp5.yN
def tab : Cond := tabOf yN yB 6 (some (.array .byte)) site
def P (b : Addr) (A : Cell) (o len : Nat) (args : Array Value) (s : State) : Prop := args = #[.ref b, .int (Int32.ofNat o), .int (Int32.ofNat len)] ∧ Ch b A s ∧ o + len ≤ A.slots.size ∧ len ≤ 536870912 ∧ ∀ i, i < len → ¬ 255 < cv A (o + i)
def E (b : Addr) (A : Cell) (o len : Nat) (r : Option Value) (s u : State) : Prop := NewArr .byte "[B" len (fun j => .int (lo8 (cv A (o + j)))) r s u ∧ u.heap.size = s.heap.size + 1
/-- no char of the range above 255: a new byte[] of their low bytes -/
theorem law (l : Launch) (b : Addr) (A : Cell) (o len : Nat) : Law l yN 3 3 1 18 yB 6 (some (.array .byte)) site (P b A o len) (E b A o len) [] 1 len := by
  refine Law.of_walk (plainFor_of_name (by decide +kernel)) (by decide +kernel) (by decide +kernel) (by decide) (fun _ _ h => by rw [h.1]; rfl) (fun _ U U' hal hh h => ⟨h.1, h.2.1.mv hal hh, h.2.2⟩) (fun r U U' V V' h1 hal h2 h => ⟨NewArr.mv r U U' V V' h1 hal h2 h.1, by rw [h1, h2]; exact h.2⟩) ?_
  intro p e s m args below meth c s₁ X0 hexec hbytes hml hret hlk hnm hown hh0 W hP
  obtain ⟨rfl, hA, l1, l2, hp⟩ := hP
  have a31 := hA.1.2.2.2
  have c1 : Steps p.tables e below (s₁.setTop (entryFrame m #[.ref b, .int (Int32.ofNat o), .int (Int32.ofNat len)] 6)) (s₁.setTop (mkF m 0 #[.val (.ref b), .val (.int (Int32.ofNat o)), .val (.int (Int32.ofNat len)), .unset, .unset, .unset] [])) := entry rfl
  have c2 : Steps p.tables e below (s₁.setTop (entryFrame m #[.ref b, .int (Int32.ofNat o), .int (Int32.ofNat len)] 6)) (s₁.setTop (mkF m 1 #[.val (.ref b), .val (.int (Int32.ofNat o)), .val (.int (Int32.ofNat len)), .unset, .unset, .unset] [.int (Int32.ofNat len)])) := c1.trans (by
    refine XS.iloadN X0.here hexec rfl (hb hbytes d0) rfl ?_
    exact Steps.refl _)
  obtain ⟨T3, B3, X3, ba3, bs3, bv3, bh3, bf3, st3⟩ := X0.anew hexec (atype := .byte) (wk W (.arrayClass .byte)) rfl (by show len * 1 ≤ _; omega) (by omega) (g := (mkF m 1 #[.val (.ref b), .val (.int (Int32.ofNat o)), .val (.int (Int32.ofNat len)), .unset, .unset, .unset] [.int (Int32.ofNat len)])) rfl (hb hbytes d1) (rest := []) rfl (Nat.le_refl _) (by show 0 + len ≤ len; omega)
  rw [hh0] at ba3 st3
  have kp3 : XT.Kept s T3 := (XT.Kept.of_eq hh0).push bh3
  have hA3 := hA.keep X3.warmed.alike (kp3 _ _ hA.1.1)
  have hne : b ≠ s.heap.size := hA.1.ne
  have c4 : Steps p.tables e below (s₁.setTop (entryFrame m #[.ref b, .int (Int32.ofNat o), .int (Int32.ofNat len)] 6)) (T3.setTop (mkF m 3 #[.val (.ref b), .val (.int (Int32.ofNat o)), .val (.int (Int32.ofNat len)), .unset, .unset, .unset] [.ref s.heap.size])) := c2.trans (st3 _ (Steps.refl _))
  have c5 : Steps p.tables e below (s₁.setTop (entryFrame m #[.ref b, .int (Int32.ofNat o), .int (Int32.ofNat len)] 6)) (T3.setTop (mkF m 9 #[.val (.ref b), .val (.int (Int32.ofNat o)), .val (.int (Int32.ofNat len)), .val (.ref s.heap.size), .unset, .unset] [.int (Int32.ofNat len), .int 0, .ref s.heap.size, .int (Int32.ofNat o), .ref b])) := c4.trans (by
    refine XS.astoreN X3.here hexec rfl (hb hbytes d3) rfl rfl rfl ?_
    refine XS.aloadN X3.here hexec rfl (hb hbytes d4) rfl rfl ?_
    refine XS.iloadN X3.here hexec rfl (hb hbytes d5) rfl ?_
    refine XS.aloadN X3.here hexec rfl (hb hbytes d6) rfl rfl ?_
    refine iconstV X3.here hexec rfl 0 (hb hbytes d7) (by decide) ?_
    refine XS.iloadN X3.here hexec rfl (hb hbytes d8) rfl ?_
    exact Steps.refl _)
  obtain ⟨v6, T6, X6, E6, g6⟩ := X3.callS hexec (Cmp5.law l b A s.heap.size B3 o 0 len) hown (wks W (staticW U16 115 Cmp5.yN)) (wk W Cmp5.tab) (W := 0) (Nat.le_of_ble_eq_true rfl) (Nat.le_of_ble_eq_true rfl) (Nat.le_refl _) (by show 0 + len + 0 ≤ len; omega) (g := (mkF m 9 #[.val (.ref b), .val (.int (Int32.ofNat o)), .val (.int (Int32.ofNat len)), .val (.ref s.heap.size), .unset, .unset] [.int (Int32.ofNat len), .int (Int32.ofNat 0), .ref s.heap.size, .int (Int32.ofNat o), .ref b])) rfl (by rw [hml]; rfl) c5 (argsL := [.ref b, .int (Int32.ofNat o), .ref s.heap.size, .int (Int32.ofNat 0), .int (Int32.ofNat len)]) (rest := []) rfl rfl (by show 2 * 0 + 0 ≤ _; decide) (hb hbytes d9) (⟨rfl, hA3, ba3, hne, l1, by rw [bs3]; simp, hp⟩)
  obtain ⟨rfl, B6, p6, f6⟩ := E6
  have c7 : Steps p.tables e below (s₁.setTop (entryFrame m #[.ref b, .int (Int32.ofNat o), .int (Int32.ofNat len)] 6)) (T6.setTop (mkF m 12 #[.val (.ref b), .val (.int (Int32.ofNat o)), .val (.int (Int32.ofNat len)), .val (.ref s.heap.size), .unset, .unset] [.int (Int32.ofNat len)])) := g6
  have c8 : Steps p.tables e below (s₁.setTop (entryFrame m #[.ref b, .int (Int32.ofNat o), .int (Int32.ofNat len)] 6)) (T6.setTop (mkF m 58 #[.val (.ref b), .val (.int (Int32.ofNat o)), .val (.int (Int32.ofNat len)), .val (.ref s.heap.size), .val (.int (Int32.ofNat len)), .unset] [.ref s.heap.size])) := c7.trans (by
    refine XS.istore X6.here hexec rfl (hb hbytes d12) rfl rfl ?_
    refine XS.iload X6.here hexec rfl (hb hbytes d14) rfl ?_
    refine XS.iloadN X6.here hexec rfl (hb hbytes d16) rfl ?_
    refine XS.icmpYes X6.here hexec rfl (pc0 := 17) rfl (hb hbytes d17) rfl (ii_eq_t rfl) (by decide) rfl ?_
    refine XS.aloadN X6.here hexec rfl (hb hbytes d57) rfl rfl ?_
    exact Steps.refl _)
  have X8 := X6.wide (L' := []) (cells' := 1) (slots' := len) (fun x hx hlt => by
    simp only [List.nil_append, copyLocs, List.mem_map, List.mem_range] at hx
    obtain ⟨i, -, rfl⟩ := hx
    exact absurd hlt (Nat.lt_irrefl _)) (Nat.le_refl _) (by omega)
  exact ⟨T6, some (.ref s.heap.size), _, _, _, X8, rfl, rfl, rfl, (fun h => by cases h), ⟨⟨rfl, B6, ba3.like (X3.warmed.alike.symm.trans X6.warmed.alike) p6.1 f6.1 f6.2.1 f6.2.2.1, f6.2.1.trans bv3, by rw [X6.warmed.alike.findClass, f6.1]; exact bf3, by rw [f6.2.2.1, bs3]; simp, fun j hj => by rw [f6.2.2.2 j, if_pos (by omega)]; rfl, kp3.put p6 (Nat.le_refl _)⟩, by rw [p6.2.2, bh3, hh0]; simp⟩, fun fs hl => c8.trans (X8.areturnOut hexec rfl hret rfl (hb hbytes d58) hl)⟩
end Cmp3
namespace CodL
def yN : MethodName := ⟨"java/lang/StringUTF16", "coderFromArrayLen", "([BI)B"⟩
abbrev yB : ByteArray := jdk_52_method_15_code
theorem d0 : decode yB 0 = .ok (.iload_n 1, 1) := by decide +kernel
theorem d1 : decode yB 1 = .ok (.aload_n 0, 1) := by decide +kernel
theorem d2 : decode yB 2 = .ok (.arraylength, 1) := by decide +kernel
theorem d3 : decode yB 3 = .ok (.isub, 1) := by decide +kernel
theorem d4 : decode yB 4 = .ok (.bipush 31, 2) := by decide +kernel
theorem d6 : decode yB 6 = .ok (.iushr, 1) := by decide +kernel
theorem d7 : decode yB 7 = .ok (.i2b, 1) := by decide +kernel
theorem d8 : decode yB 8 = .ok (.ireturn, 1) := by decide +kernel
def site : List Cond := []
def tab : Cond := tabOf yN yB 2 (some .byte) site
def P (d : Addr) (B : Cell) (args : Array Value) (s : State) : Prop := args = #[.ref d, .int (Int32.ofNat B.slots.size)] ∧ Arr .byte d B s
def E (r : Option Value) (s u : State) : Prop := XT.PureE (some (.int 0)) r s u
/-- an array as long as the number of chars: LATIN1 -/
theorem law (l : Launch) (d : Addr) (B : Cell) : Law l yN 2 2 0 0 yB 2 (some .byte) site (P d B) E [] 0 0 := by
  refine Law.of_walk (plainFor_of_name (by decide +kernel)) (by decide +kernel) (by decide +kernel) (by decide) (fun _ _ h => by rw [h.1]; rfl) (fun _ U U' hal hh h => ⟨h.1, h.2.mv hal hh⟩) (fun r U U' V V' h1 hal h2 h => XT.PureE.mv r U U' V V' h1 hal h2 h) ?_
  intro p e s m args below meth c s₁ X0 hexec hbytes hml hret hlk hnm hown hh0 W hP
  obtain ⟨rfl, hB⟩ := hP
  have hB0 := hB.mv X0.warmed.alike hh0
  have c1 : Steps p.tables e below (s₁.setTop (entryFrame m #[.ref d, .int (Int32.ofNat B.slots.size)] 2)) (s₁.setTop (mkF m 0 #[.val (.ref d), .val (.int (Int32.ofNat B.slots.size))] [])) := entry rfl
  have c2 : Steps p.tables e below (s₁.setTop (entryFrame m #[.ref d, .int (Int32.ofNat B.slots.size)] 2)) (s₁.setTop (mkF m 2 #[.val (.ref d), .val (.int (Int32.ofNat B.slots.size))] [.ref d, .int (Int32.ofNat B.slots.size)])) := c1.trans (by
    refine XS.iloadN X0.here hexec rfl (hb hbytes d0) rfl ?_
    refine XS.aloadN X0.here hexec rfl (hb hbytes d1) rfl rfl ?_
    exact Steps.refl _)
  have c3 : Steps p.tables e below (s₁.setTop (entryFrame m #[.ref d, .int (Int32.ofNat B.slots.size)] 2)) (s₁.setTop (mkF m 8 #[.val (.ref d), .val (.int (Int32.ofNat B.slots.size))] [.int (lo8 (ushr (Int32.ofNat B.slots.size - Int32.ofNat B.slots.size) 31))])) := c2.trans (by
    refine X0.alen hexec hB0 rfl rfl (hb hbytes d2) ?_
    refine XS.isub X0.here hexec rfl (hb hbytes d3) rfl ?_
    refine bipushV X0.here hexec rfl 31 (hb hbytes d4) (by decide) ?_
    refine iushr X0.here hexec rfl (hb hbytes d6) rfl ?_
    refine i2b X0.here hexec rfl (hb hbytes d7) rfl ?_
    exact Steps.refl _)
  have e0 : lo8 (ushr (Int32.ofNat B.slots.size - Int32.ofNat B.slots.size) 31) = 0 := by rw [Int32.sub_self]; decide
  rw [e0] at c3
  exact ⟨s₁, some (.int 0), _, _, _, X0, rfl, rfl, rfl, (fun h => by cases h), ⟨rfl, hh0⟩, fun fs hl => c3.trans (X0.ireturnOut hexec hret rfl (Or.inr (Or.inr (Or.inl rfl))) (hb hbytes d8) hl)⟩
end CodL
/-- the String at a is Latin-1 over a new byte[] (the heap's one new cell): the low bytes of the len chars of A from o on; every cell but a is kept -/
def Got (a : Addr) (D : Cell) (fV fC : Field) (A : Cell) (o len : Nat) (r : Option Value) (s u : State) : Prop := r = none ∧ ∃ D' V : Cell, Blank "java/lang/String" a D' u ∧ Same D D' [fV.slot, fC.slot] ∧ D'.slots[fV.slot]? = some (.ref s.heap.size) ∧ D'.slots[fC.slot]? = some (.int 0) ∧ Arr .byte s.heap.size V u ∧ V.vm = .none ∧ u.vm.findClass "[B" = some V.cls ∧ V.slots.size = len ∧ (∀ j, j < len → V.slots[j]? = some (.int (lo8 (cv A (o + j))))) ∧ (∀ (y : Addr) (c : Cell), y ≠ a → s.heap[y]? = some c → u.heap[y]? = some c) ∧ u.heap.size = s.heap.size + 1
theorem Got.mv {a : Addr} {D A : Cell} {fV fC : Field} {o len : Nat} : ∀ r (U U' V V' : State), U'.heap = U.heap → V.vm.Alike V'.vm → V'.heap = V.heap → Got a D fV fC A o len r U V → Got a D fV fC A o len r U' V' :=
  fun r U U' V V' h1 hal h2 ⟨e0, D', X, a1, a2, a3, a4, a5, a6, a7, a8, a9, a10, a11⟩ => ⟨e0, D', X, a1.mv hal h2, a2, by rw [h1]; exact a3, a4, by rw [h1]; exact a5.mv hal h2, a6, by rw [hal.findClass]; exact a7, a8, a9, by rw [h1, h2]; exact a10, by rw [h1, h2]; exact a11⟩
namespace New4
def yN : MethodName := ⟨"java/lang/String", "<init>", "([CIILjava/lang/Void;)V"⟩
abbrev yB : ByteArray := jdk_42_method_149_code
theorem d0 : decode yB 0 = .ok (.aload_n 0, 1) := by decide +kernel
theorem d1 : decode yB 1 = .ok (.invokespecial 1, 3) := by decide +kernel
theorem d4 : decode yB 4 = .ok (.iload_n 3, 1) := by decide +kernel
theorem d5 : decode yB 5 = .ok (.ifCond (.ne) 22, 3) := by decide +kernel
theorem d27 : decode yB 27 = .ok (.getstatic 38, 3) := by decide +kernel
theorem d30 : decode yB 30 = .ok (.ifCond (.eq) 28, 3) := by decide +kernel
theorem d33 : decode yB 33 = .ok (.aload_n 1, 1) := by decide +kernel
theorem d34 : decode yB 34 = .ok (.iload_n 2, 1) := by decide +kernel
theorem d35 : decode yB 35 = .ok (.iload_n 3, 1) := by decide +kernel
theorem d36 : decode yB 36 = .ok (.invokestatic 177, 3) := by decide +kernel
theorem d39 : decode yB 39 = .ok (.astore 5, 2) := by decide +kernel
theorem d41 : decode yB 41 = .ok (.aload_n 0, 1) := by decide +kernel
theorem d42 : decode yB 42 = .ok (.aload 5, 2) := by decide +kernel
theorem d44 : decode yB 44 = .ok (.iload_n 3, 1) := by decide +kernel
theorem d45 : decode yB 45 = .ok (.invokestatic 47, 3) := by decide +kernel
theorem d48 : decode yB 48 = .ok (.putfield 15, 3) := by decide +kernel
theorem d51 : decode yB 51 = .ok (.aload_n 0, 1) := by decide +kernel
theorem d52 : decode yB 52 = .ok (.aload 5, 2) := by decide +kernel
theorem d54 : decode yB 54 = .ok (.putfield 9, 3) := by decide +kernel
theorem d57 : decode yB 57 = .ok (.return_, 1) := by decide +kernel
def site : List Cond := [.fieldLink "java/lang/String" 38 "java/lang/String" "COMPACT_STRINGS" "Z", Cmp3.tab, CodL.tab, .laysFinal "java/lang/String" "java/lang/String" "value" "[B", .fieldLink "java/lang/String" 9 "java/lang/String" "value" "[B", .laysFinal "java/lang/String" "java/lang/String" "coder" "B", .fieldLink "java/lang/String" 15 "java/lang/String" "coder" "B"] ++ objW "java/lang/String" 1 ++ staticW "java/lang/String" 177 Cmp3.yN ++ staticW "java/lang/String" 47 CodL.yN
def tab : Cond := tabOf yN yB 6 none site
def P (a : Addr) (D : Cell) (fV fC : Field) (b : Addr) (A : Cell) (z : Int32) (o len : Nat) (args : Array Value) (s : State) : Prop := args = #[.ref a, .ref b, .int (Int32.ofNat o), .int (Int32.ofNat len), .null] ∧ Blank "java/lang/String" a D s ∧ Found "java/lang/String" "value" "[B" fV s ∧ Found "java/lang/String" "coder" "B" fC s ∧ Ch b A s ∧ StaticIs s "java/lang/String" "COMPACT_STRINGS" "Z" (.int z) ∧ ¬ z = 0 ∧ 0 < len ∧ o + len ≤ A.slots.size ∧ len ≤ 536870912 ∧ ∀ i, i < len → ¬ 255 < cv A (o + i)
def E (a : Addr) (D : Cell) (fV fC : Field) (A : Cell) (o len : Nat) (r : Option Value) (s u : State) : Prop := Got a D fV fC A o len r s u
/-- len > 0, no char of the range above 255: a Latin-1 String of their low bytes -/
theorem law (l : Launch) (a : Addr) (D : Cell) (fV fC : Field) (b : Addr) (A : Cell) (z : Int32) (o len : Nat) : Law l yN 5 4 2 35 yB 6 none site (P a D fV fC b A z o len) (E a D fV fC A o len) [⟨a, fC.slot⟩, ⟨a, fV.slot⟩] 1 len := by
  refine Law.of_walk (plainFor_of_name (by decide +kernel)) (by decide +kernel) (by decide +kernel) (by decide) (fun _ _ h => by rw [h.1]; rfl) (fun _ U U' hal hh h => ⟨h.1, h.2.1.mv hal hh, h.2.2.1.al hal, h.2.2.2.1.al hal, h.2.2.2.2.1.mv hal hh, h.2.2.2.2.2.1.there hal hh, h.2.2.2.2.2.2⟩) (fun r U U' V V' h1 hal h2 h => Got.mv r U U' V V' h1 hal h2 h) ?_
  intro p e s m args below meth c s₁ X0 hexec hbytes hml hret hlk hnm hown hh0 W hP
  obtain ⟨rfl, hB, f1, f2, hA, s1, hz, l0, l1, l2, hp⟩ := hP
  have a31 := hA.1.2.2.2
  have c1 : Steps p.tables e below (s₁.setTop (entryFrame m #[.ref a, .ref b, .int (Int32.ofNat o), .int (Int32.ofNat len), .null] 6)) (s₁.setTop (mkF m 0 #[.val (.ref a), .val (.ref b), .val (.int (Int32.ofNat o)), .val (.int (Int32.ofNat len)), .val .null, .unset] [])) := entry rfl
  have c2 : Steps p.tables e below (s₁.setTop (entryFrame m #[.ref a, .ref b, .int (Int32.ofNat o), .int (Int32.ofNat len), .null] 6)) (s₁.setTop (mkF m 1 #[.val (.ref a), .val (.ref b), .val (.int (Int32.ofNat o)), .val (.int (Int32.ofNat len)), .val .null, .unset] [.ref a])) := c1.trans (by
    refine XS.aloadN X0.here hexec rfl (hb hbytes d0) rfl rfl ?_
    exact Steps.refl _)
  obtain ⟨T3, X3, q3, st3⟩ := X0.oinit hexec hown (wks W (objW "java/lang/String" 1)) (g := (mkF m 1 #[.val (.ref a), .val (.ref b), .val (.int (Int32.ofNat o)), .val (.int (Int32.ofNat len)), .val .null, .unset] [.ref a])) rfl (by rw [hml]; rfl) (rest := []) rfl (hb hbytes d1) (W := 0) (by show 2 * 0 + 0 ≤ _; decide) (Nat.le_of_ble_eq_true rfl) (Nat.le_of_ble_eq_true rfl)
  have hh3 := q3.trans hh0
  have c4 : Steps p.tables e below (s₁.setTop (entryFrame m #[.ref a, .ref b, .int (Int32.ofNat o), .int (Int32.ofNat len), .null] 6)) (T3.setTop (mkF m 27 #[.val (.ref a), .val (.ref b), .val (.int (Int32.ofNat o)), .val (.int (Int32.ofNat len)), .val .null, .unset] [])) := (c2.trans (st3 _ (Steps.refl _))).trans (by
    refine XS.iloadN X3.here hexec rfl (hb hbytes d4) rfl ?_
    refine XS.ifYes X3.here hexec rfl (pc0 := 5) rfl (hb hbytes d5) rfl (i0_ne_t (nz32 (by omega) l0)) (by decide) rfl ?_
    exact Steps.refl _)
  obtain ⟨T5, X5, q5, st5⟩ := X3.sget hexec hown (wk W (.fieldLink "java/lang/String" 38 "java/lang/String" "COMPACT_STRINGS" "Z")) s1 (fun _ _ h => by rw [hh3]; exact h) (g := (mkF m 27 #[.val (.ref a), .val (.ref b), .val (.int (Int32.ofNat o)), .val (.int (Int32.ofNat len)), .val .null, .unset] [])) rfl (hb hbytes d27)
  have hh5 := q5.trans hh3
  have c6 : Steps p.tables e below (s₁.setTop (entryFrame m #[.ref a, .ref b, .int (Int32.ofNat o), .int (Int32.ofNat len), .null] 6)) (T5.setTop (mkF m 30 #[.val (.ref a), .val (.ref b), .val (.int (Int32.ofNat o)), .val (.int (Int32.ofNat len)), .val .null, .unset] [.int z])) := c4.trans (st5 _ (Steps.refl _))
  have c7 : Steps p.tables e below (s₁.setTop (entryFrame m #[.ref a, .ref b, .int (Int32.ofNat o), .int (Int32.ofNat len), .null] 6)) (T5.setTop (mkF m 36 #[.val (.ref a), .val (.ref b), .val (.int (Int32.ofNat o)), .val (.int (Int32.ofNat len)), .val .null, .unset] [.int (Int32.ofNat len), .int (Int32.ofNat o), .ref b])) := c6.trans (by
    refine XS.ifNo X5.here hexec rfl (hb hbytes d30) rfl (i0_eq_f hz) ?_
    refine XS.aloadN X5.here hexec rfl (hb hbytes d33) rfl rfl ?_
    refine XS.iloadN X5.here hexec rfl (hb hbytes d34) rfl ?_
    refine XS.iloadN X5.here hexec rfl (hb hbytes d35) rfl ?_
    exact Steps.refl _)
  obtain ⟨v8, T8, X8, E8, g8⟩ := X5.callS hexec (Cmp3.law l b A o len) hown (wks W (staticW "java/lang/String" 177 Cmp3.yN)) (wk W Cmp3.tab) (W := 0) (Nat.le_of_ble_eq_true rfl) (Nat.le_of_ble_eq_true rfl) (Nat.le_refl _) (by show 0 + len ≤ len; omega) (g := (mkF m 36 #[.val (.ref a), .val (.ref b), .val (.int (Int32.ofNat o)), .val (.int (Int32.ofNat len)), .val .null, .unset] [.int (Int32.ofNat len), .int (Int32.ofNat o), .ref b])) rfl (by rw [hml]; rfl) c7 (argsL := [.ref b, .int (Int32.ofNat o), .int (Int32.ofNat len)]) (rest := []) rfl rfl (by show 2 * 0 + 0 ≤ _; decide) (hb hbytes d36) (⟨rfl, hA.mv X5.warmed.alike hh5, l1, l2, hp⟩)
  obtain ⟨e8, z8⟩ := E8
  obtain ⟨rfl, N, n1, n2, n3, n4, n5, n6⟩ := NewArr.mv _ T5 s _ _ hh5.symm (Vm.Alike.refl _) rfl e8
  rw [hh5] at z8
  have hB1 := hB.keep X8.warmed.alike (n6 _ _ hB.1)
  have hne : s.heap.size ≠ a := (Nat.ne_of_lt (Array.getElem?_eq_some_iff.mp hB.1).1).symm
  have c9 : Steps p.tables e below (s₁.setTop (entryFrame m #[.ref a, .ref b, .int (Int32.ofNat o), .int (Int32.ofNat len), .null] 6)) (T8.setTop (mkF m 39 #[.val (.ref a), .val (.ref b), .val (.int (Int32.ofNat o)), .val (.int (Int32.ofNat len)), .val .null, .unset] [.ref s.heap.size])) := g8
  have c10 : Steps p.tables e below (s₁.setTop (entryFrame m #[.ref a, .ref b, .int (Int32.ofNat o), .int (Int32.ofNat len), .null] 6)) (T8.setTop (mkF m 45 #[.val (.ref a), .val (.ref b), .val (.int (Int32.ofNat o)), .val (.int (Int32.ofNat len)), .val .null, .val (.ref s.heap.size)] [.int (Int32.ofNat N.slots.size), .ref s.heap.size, .ref a])) := by
    have hc : Steps p.tables e below (s₁.setTop (entryFrame m #[.ref a, .ref b, .int (Int32.ofNat o), .int (Int32.ofNat len), .null] 6)) (T8.setTop (mkF m 45 #[.val (.ref a), .val (.ref b), .val (.int (Int32.ofNat o)), .val (.int (Int32.ofNat len)), .val .null, .val (.ref s.heap.size)] [.int (Int32.ofNat len), .ref s.heap.size, .ref a])) := c9.trans (by
      refine XS.astore X8.here hexec rfl (hb hbytes d39) rfl rfl rfl ?_
      refine XS.aloadN X8.here hexec rfl (hb hbytes d41) rfl rfl ?_
      refine XS.aload X8.here hexec rfl (hb hbytes d42) rfl rfl ?_
      refine XS.iloadN X8.here hexec rfl (hb hbytes d44) rfl ?_
      exact Steps.refl _)
    rw [n4]; exact hc
  obtain ⟨v11, T11, X11, E11, g11⟩ := X8.callS hexec (CodL.law l s.heap.size N) hown (wks W (staticW "java/lang/String" 47 CodL.yN)) (wk W CodL.tab) (W := 1) (Nat.le_of_ble_eq_true rfl) (Nat.le_of_ble_eq_true rfl) (Nat.le_refl _) (by show 0 + len + 0 ≤ len; omega) (g := (mkF m 45 #[.val (.ref a), .val (.ref b), .val (.int (Int32.ofNat o)), .val (.int (Int32.ofNat len)), .val .null, .val (.ref s.heap.size)] [.int (Int32.ofNat N.slots.size), .ref s.heap.size, .ref a])) rfl (by rw [hml]; rfl) c10 (argsL := [.ref s.heap.size, .int (Int32.ofNat N.slots.size)]) (rest := [.ref a]) rfl rfl (by show 2 * 0 + (1 + 0) ≤ _; decide) (hb hbytes d45) (⟨rfl, n1⟩)
  obtain ⟨rfl, q11⟩ := E11
  have hB11 := hB1.mv (X8.warmed.alike.symm.trans X11.warmed.alike) q11
  have c12 : Steps p.tables e below (s₁.setTop (entryFrame m #[.ref a, .ref b, .int (Int32.ofNat o), .int (Int32.ofNat len), .null] 6)) (T11.setTop (mkF m 48 #[.val (.ref a), .val (.ref b), .val (.int (Int32.ofNat o)), .val (.int (Int32.ofNat len)), .val .null, .val (.ref s.heap.size)] [.int 0, .ref a])) := g11
  obtain ⟨T13, X13, p13, bl13, sl13, st13⟩ := X11.finit hexec hown (wk W (.fieldLink "java/lang/String" 15 "java/lang/String" "coder" "B")) (Or.inr ⟨_, (wk W (.laysFinal "java/lang/String" "java/lang/String" "coder" "B"))⟩) (Or.inl ⟨rfl, hnm⟩) f2 (Or.inl rfl) hB11 (t := .byte) (by decide +kernel) rfl (g := (mkF m 48 #[.val (.ref a), .val (.ref b), .val (.int (Int32.ofNat o)), .val (.int (Int32.ofNat len)), .val .null, .val (.ref s.heap.size)] [.int 0, .ref a])) rfl (rest := []) rfl (hb hbytes d48)
  have c14 : Steps p.tables e below (s₁.setTop (entryFrame m #[.ref a, .ref b, .int (Int32.ofNat o), .int (Int32.ofNat len), .null] 6)) (T13.setTop (mkF m 54 #[.val (.ref a), .val (.ref b), .val (.int (Int32.ofNat o)), .val (.int (Int32.ofNat len)), .val .null, .val (.ref s.heap.size)] [.ref s.heap.size, .ref a])) := (c12.trans (st13 _ (Steps.refl _))).trans (by
    refine XS.aloadN X13.here hexec rfl (hb hbytes d51) rfl rfl ?_
    refine XS.aload X13.here hexec rfl (hb hbytes d52) rfl rfl ?_
    exact Steps.refl _)
  obtain ⟨T15, X15, p15, bl15, sl15, st15⟩ := X13.finit hexec hown (wk W (.fieldLink "java/lang/String" 9 "java/lang/String" "value" "[B")) (Or.inr ⟨_, (wk W (.laysFinal "java/lang/String" "java/lang/String" "value" "[B"))⟩) (Or.inl ⟨rfl, hnm⟩) f1 (Or.inl rfl) bl13 (t := (.array .byte)) (by decide +kernel) rfl (g := (mkF m 54 #[.val (.ref a), .val (.ref b), .val (.int (Int32.ofNat o)), .val (.int (Int32.ofNat len)), .val .null, .val (.ref s.heap.size)] [.ref s.heap.size, .ref a])) rfl (rest := []) rfl (hb hbytes d54)
  have c16 : Steps p.tables e below (s₁.setTop (entryFrame m #[.ref a, .ref b, .int (Int32.ofNat o), .int (Int32.ofNat len), .null] 6)) (T15.setTop (mkF m 57 #[.val (.ref a), .val (.ref b), .val (.int (Int32.ofNat o)), .val (.int (Int32.ofNat len)), .val .null, .val (.ref s.heap.size)] [])) := c14.trans (st15 _ (Steps.refl _))
  have ap := apart (Or.inr ⟨_, (wk W (.laysFinal "java/lang/String" "java/lang/String" "value" "[B"))⟩) (Or.inr ⟨_, (wk W (.laysFinal "java/lang/String" "java/lang/String" "coder" "B"))⟩) f1 f2 (t₁ := .array .byte) (t₂ := .byte) (by decide +kernel) (by decide +kernel) (by decide)
  have al := X8.warmed.alike.symm.trans X15.warmed.alike
  have n7 : T11.heap[s.heap.size]? = some N := by rw [q11]; exact n1.1
  exact ⟨T15, none, _, _, _, X15, by simp, rfl, by omega, (fun _ => rfl), ⟨rfl, _, N, bl15, ((Same.refl D _).set _ (by simp)).set _ (by simp), sl15, (Cell.slots_setSlot_ne _ ap).trans sl13, n1.keep al (p15.other hne (p13.other hne n7)), n2, by rw [al.findClass]; exact n3, n4, n5, fun y c h1 h2 => p15.other h1 (p13.other h1 (by rw [q11]; exact n6 y c h2)), by rw [p15.2.2, p13.2.2, q11]; exact z8⟩, fun fs hl => c16.trans (X15.returnOut hexec hret (hb hbytes d57) hl)⟩
end New4
namespace New1
def yN : MethodName := ⟨"java/lang/String", "<init>", "([C)V"⟩
abbrev yB : ByteArray := jdk_42_method_3_code
theorem d0 : decode yB 0 = .ok (.aload_n 0, 1) := by decide +kernel
theorem d1 : decode yB 1 = .ok (.aload_n 1, 1) := by decide +kernel
theorem d2 : decode yB 2 = .ok (.iconst 0, 1) := by decide +kernel
theorem d3 : decode yB 3 = .ok (.aload_n 1, 1) := by decide +kernel
theorem d4 : decode yB 4 = .ok (.arraylength, 1) := by decide +kernel
theorem d5 : decode yB 5 = .ok (.aconst_null, 1) := by decide +kernel
theorem d6 : decode yB 6 = .ok (.invokespecial 27, 3) := by decide +kernel
theorem d9 : decode yB 9 = .ok (.return_, 1) := by decide +kernel
def site : List Cond := [New4.tab] ++ initW "java/lang/String" 27 New4.yN
def tab : Cond := tabOf yN yB 2 none site
def P (a : Addr) (D : Cell) (fV fC : Field) (b : Addr) (A : Cell) (z : Int32) (args : Array Value) (s : State) : Prop := args = #[.ref a, .ref b] ∧ Blank "java/lang/String" a D s ∧ Found "java/lang/String" "value" "[B" fV s ∧ Found "java/lang/String" "coder" "B" fC s ∧ Ch b A s ∧ StaticIs s "java/lang/String" "COMPACT_STRINGS" "Z" (.int z) ∧ ¬ z = 0 ∧ 0 < A.slots.size ∧ A.slots.size ≤ 536870912 ∧ ∀ i, i < A.slots.size → ¬ 255 < cv A i
def E (a : Addr) (D : Cell) (fV fC : Field) (A : Cell) (r : Option Value) (s u : State) : Prop := Got a D fV fC A 0 A.slots.size r s u
/-- new String(chars), not empty, no char above 255: a Latin-1 String of their low bytes -/
theorem law (l : Launch) (a : Addr) (D : Cell) (fV fC : Field) (b : Addr) (A : Cell) (z : Int32) : Law l yN 2 1 3 52 yB 2 none site (P a D fV fC b A z) (E a D fV fC A) [⟨a, fC.slot⟩, ⟨a, fV.slot⟩] 1 A.slots.size := by
  refine Law.of_walk (plainFor_of_name (by decide +kernel)) (by decide +kernel) (by decide +kernel) (by decide) (fun _ _ h => by rw [h.1]; rfl) (fun _ U U' hal hh h => ⟨h.1, h.2.1.mv hal hh, h.2.2.1.al hal, h.2.2.2.1.al hal, h.2.2.2.2.1.mv hal hh, h.2.2.2.2.2.1.there hal hh, h.2.2.2.2.2.2⟩) (fun r U U' V V' h1 hal h2 h => Got.mv r U U' V V' h1 hal h2 h) ?_
  intro p e s m args below meth c s₁ X0 hexec hbytes hml hret hlk hnm hown hh0 W hP
  obtain ⟨rfl, hB, f1, f2, hA, s1, hz, l0, l2, hp⟩ := hP
  have c1 : Steps p.tables e below (s₁.setTop (entryFrame m #[.ref a, .ref b] 2)) (s₁.setTop (mkF m 0 #[.val (.ref a), .val (.ref b)] [])) := entry rfl
  have c2 : Steps p.tables e below (s₁.setTop (entryFrame m #[.ref a, .ref b] 2)) (s₁.setTop (mkF m 6 #[.val (.ref a), .val (.ref b)] [.null, .int (Int32.ofNat A.slots.size), .int 0, .ref b, .ref a])) := c1.trans (by
    refine XS.aloadN X0.here hexec rfl (hb hbytes d0) rfl rfl ?_
    refine XS.aloadN X0.here hexec rfl (hb hbytes d1) rfl rfl ?_
    refine iconstV X0.here hexec rfl 0 (hb hbytes d2) (by decide) ?_
    refine XS.aloadN X0.here hexec rfl (hb hbytes d3) rfl rfl ?_
    refine X0.alen hexec (hA.1.mv X0.warmed.alike hh0) rfl rfl (hb hbytes d4) ?_
    refine XS.aconstNull X0.here hexec rfl (hb hbytes d5) ?_
    exact Steps.refl _)
  obtain ⟨v3, T3, X3, E3, g3⟩ := X0.callN hexec (New4.law l a D fV fC b A z 0 A.slots.size) rfl hown (wks W (initW "java/lang/String" 27 New4.yN)) (W New4.tab (by simp only [site, List.mem_cons, List.mem_append, true_or, or_true])) (W := 0) (Nat.le_of_ble_eq_true rfl) (Nat.le_of_ble_eq_true rfl) (Nat.le_refl _) (by show 0 + A.slots.size ≤ A.slots.size; omega) (g := (mkF m 6 #[.val (.ref a), .val (.ref b)] [.null, .int (Int32.ofNat A.slots.size), .int (Int32.ofNat 0), .ref b, .ref a])) rfl (by rw [hml]; rfl) c2 (argsL := [.ref b, .int (Int32.ofNat 0), .int (Int32.ofNat A.slots.size), .null]) (rest := []) rfl rfl (by show 2 * 0 + 0 ≤ _; decide) (hb hbytes d6) (⟨rfl, hB.mv X0.warmed.alike hh0, f1.al X0.warmed.alike, f2.al X0.warmed.alike, hA.mv X0.warmed.alike hh0, s1.there X0.warmed.alike hh0, hz, l0, by omega, l2, fun i hi => by rw [Nat.zero_add]; exact hp i hi⟩)
  have e0 := Got.mv _ s₁ s _ _ hh0.symm (Vm.Alike.refl _) rfl E3
  obtain rfl := e0.1
  have c4 : Steps p.tables e below (s₁.setTop (entryFrame m #[.ref a, .ref b] 2)) (T3.setTop (mkF m 9 #[.val (.ref a), .val (.ref b)] [])) := g3
  exact ⟨T3, none, _, _, _, X3, by simp, rfl, by omega, (fun _ => rfl), e0, fun fs hl => c4.trans (X3.returnOut hexec hret (hb hbytes d9) hl)⟩
theorem pays {l : Launch} {R : Room} {p : Program} {e : Env} {below : List Frame} {s : State} {sargs : Array Value} {len W : Nat} (a : Addr) (D : Cell) (fV fC : Field) (b : Addr) (A : Cell) (z : Int32) (htab : tab.before sargs s = true) (hfr : 4 ≤ R.frames) (hlo : W + 65 ≤ R.locals) :
    Back l R p e below s sargs yN len W (fun A₁ a₁ => A₁.cells + 1 ≤ R.cells ∧ A₁.slots + A.slots.size ≤ R.slots ∧ P a D fV fC b A z a₁ A₁.U) (fun A₁ _ v₁ B₁ => E a D fV fC A v₁ A₁.U B₁.U ∧ B₁.locs = A₁.locs ++ [⟨a, fC.slot⟩, ⟨a, fV.slot⟩] ∧ B₁.cells = A₁.cells + 1 ∧ B₁.slots = A₁.slots + A.slots.size) :=
  (law l a D fV fC b A z).pays htab hfr (by omega)
end New1
/-- the byte, read back as charAt reads it, is the char -/
theorem lo8_mask {x : Int32} (h0 : ¬ x < 0) (h1 : ¬ 255 < x) : lo8 x &&& 255 = x := by
  have t : ∀ k : Fin 256, lo8 (Int32.ofNat k.val) &&& 255 = Int32.ofNat k.val := by decide +kernel
  rw [Int32.lt_iff_toInt_lt] at h0 h1
  have e0 : (0 : Int32).toInt = 0 := rfl
  have e1 : (255 : Int32).toInt = 255 := rfl
  obtain ⟨k, hk⟩ : ∃ k : Nat, x.toInt = k := ⟨x.toInt.toNat, by omega⟩
  have hx : x = Int32.ofNat k := Int32.toInt_inj.mp (by rw [hk, Int32.toInt_ofNat_small (by omega)])
  rw [hx]
  exact t ⟨k, by omega⟩
end StrChars
namespace StrChars.Road
open Jvm Sem ClassFile Op Lib Jvm.Stand Jvm.Free Jvm.Free.XT
open Jvm.Lib.Cold (StaticIs)
abbrev ST : String := "java/lang/String"
/-- every table word that New1's law asks, flat -/
abbrev words : List Jvm.Cond := [.code New1.yN New1.yB 2 none, .initialized ST, .methodLink ST 27 New4.yN, .instanceMethod New4.yN,
  .code New4.yN New4.yB 6 none, .fieldLink ST 38 ST "COMPACT_STRINGS" "Z", .laysFinal ST ST "value" "[B", .fieldLink ST 9 ST "value" "[B", .laysFinal ST ST "coder" "B", .fieldLink ST 15 ST "coder" "B",
  .methodLink ST 1 Lib.objectInit, .instanceMethod Lib.objectInit, .code Lib.objectInit ⟨#[0xb1]⟩ 1 none, .methodLink ST 177 Cmp3.yN, .static Cmp3.yN, .methodLink ST 47 CodL.yN, .static CodL.yN,
  .code Cmp3.yN Cmp3.yB 6 (some (.array .byte)), .initialized U16, .arrayClass .byte, .methodLink U16 115 Cmp5.yN, .static Cmp5.yN, .code Cmp5.yN Cmp5.yB 7 (some .int), .code CodL.yN CodL.yB 2 (some .byte)]
theorem tab_of {a : Array Value} {s : State} (h : ∀ w ∈ words, w.before a s = true) : New1.tab.before a s = true := by
  have h5 : Cmp5.tab.before a s = true := unparts (wk h (.code Cmp5.yN Cmp5.yB 7 (some .int))) (wks h (.initialized Cmp5.yN.cls :: Cmp5.site))
  have hc : CodL.tab.before a s = true := unparts (wk h (.code CodL.yN CodL.yB 2 (some .byte))) (wks h (.initialized CodL.yN.cls :: CodL.site))
  have q5 : ∀ w ∈ Cmp5.tab :: words, w.before a s = true := fun w hw => (List.mem_cons.mp hw).elim (fun e => e ▸ h5) (h w)
  have h3 : Cmp3.tab.before a s = true := unparts (wk q5 (.code Cmp3.yN Cmp3.yB 6 (some (.array .byte)))) (wks q5 (.initialized Cmp3.yN.cls :: Cmp3.site))
  have q3 : ∀ w ∈ Cmp3.tab :: CodL.tab :: words, w.before a s = true := fun w hw => (List.mem_cons.mp hw).elim (fun e => e ▸ h3) fun hw => (List.mem_cons.mp hw).elim (fun e => e ▸ hc) (h w)
  have h4 : New4.tab.before a s = true := unparts (wk q3 (.code New4.yN New4.yB 6 none)) (wks q3 (.initialized New4.yN.cls :: New4.site))
  have q4 : ∀ w ∈ New4.tab :: words, w.before a s = true := fun w hw => (List.mem_cons.mp hw).elim (fun e => e ▸ h4) (h w)
  exact unparts (wk q4 (.code New1.yN New1.yB 2 none)) (wks q4 (.initialized New1.yN.cls :: New1.site))
/-- the words ride from the start Z to the walk's own state -/
theorem moved {Z s : State} {a0 args : Array Value} (hZ : Z.Warmed39 s.vm) (hw : ∀ d ∈ words, d.before a0 Z = true) : ∀ d ∈ words, d.before args s = true := fun d hd => by
  have q := hw d hd
  have t : ∀ d ∈ words, d = .arrayClass .byte ∨ (d.onTables && d.keepsFace) = true := by decide +kernel
  rcases t d hd with rfl | t
  · exact RoadKit.mvA hZ q
  · exact RoadKit.mv hZ q t
/-- WHAT COMES BACK, over the tables of the start Z: h the heap at the call, h' behind it -/
def Q (Z : State) (x : Addr) (A : Cell) (h : Heap) (v : Option Value) (h' : Heap) (L : List Loc) : Prop := v = none ∧ (∀ y ∈ L, y.base = x) ∧ RoadKit.Keep h h' [x] ∧ h'.size = h.size + 1 ∧ RoadKit.Exa Z h' x ST ∧ RoadKit.Fld Z h' x ST "value" "[B" (.ref h.size) ∧ RoadKit.Fld Z h' x ST "coder" "B" (.int 0) ∧
  (∃ V : Cell, RoadKit.Arr Z h' h.size V .byte ∧ V.vm = .none ∧ Z.vm.findClass "[B" = some V.cls ∧ V.slots.size = A.slots.size ∧ ∀ j, j < A.slots.size → V.slots[j]? = some (.int (lo8 (cv A j)))) ∧
  ∀ (O n d : String) (w : Value), RoadKit.Fld Z h x O n d w → RoadKit.slotOf Z O n d ≠ RoadKit.slotOf Z ST "value" "[B" → RoadKit.slotOf Z O n d ≠ RoadKit.slotOf Z ST "coder" "B" → RoadKit.Fld Z h' x O n d w
/-- **new String(chars) AT A CALL, IN THE ROAD'S FORM**: for specialBack behind newO: x the fresh String, b the char[] with the cell A -/
theorem back {p : Program} {l : Launch} {e : Env} {R : Room} {s : State} {args : Array Value} {below : List Frame} {len W : Nat} {Z : State} {a0 : Array Value} {h : Heap} (hZ : Z.Warmed39 s.vm) (hw : ∀ d ∈ words, d.before a0 Z = true) {kI : Nat} (wi : (Jvm.Cond.instantiable ST kI).before a0 Z = true)
    {x b : Addr} {A : Cell} {z : Int32} {v0 c0 : Value} (E : RoadKit.Exa Z h x ST) (V : RoadKit.Fld Z h x ST "value" "[B" v0) (C : RoadKit.Fld Z h x ST "coder" "B" c0) (K : RoadKit.Arr Z h b A .char) (hty : Typed .char A) (S : RoadKit.Sta Z h ST "COMPACT_STRINGS" "Z" (.int z)) (hz : ¬ z = 0)
    (l0 : 0 < A.slots.size) (l2 : A.slots.size ≤ 536870912) (hp : ∀ i, i < A.slots.size → ¬ 255 < cv A i) (hfr : 4 ≤ R.frames) (hlo : W + 65 ≤ R.locals) :
    Back l R p e below s args New1.yN len W (fun P a => a = #[.ref x, .ref b] ∧ P.U.heap = h ∧ P.cells + 1 ≤ R.cells ∧ P.slots + A.slots.size ≤ R.slots)
      (fun P _ v B => ∃ L, Q Z x A h v B.U.heap L ∧ B.locs = P.locs ++ L ∧ B.cells = P.cells + 1 ∧ B.slots = P.slots + A.slots.size) := by
  intro m meth c P g ig mk a X hg hsize hdg hW hn hp'
  obtain ⟨rfl, rfl, r1, r2⟩ := hp'
  have al : Z.vm.Alike P.U.vm := hZ.alike.trans X.warmed.alike
  obtain ⟨D, cfV, kV, iV, fV, hD, gV, stV, knV, obV, asV, slV⟩ := id V
  obtain ⟨D', cfC, kC, iC, fC, hD', gC, stC, -, -, asC, slC⟩ := id C
  cases hD.symm.trans hD'
  obtain ⟨D2, kD, e1, e2, e3, e4, e5⟩ := id E
  cases hD.symm.trans e1
  obtain ⟨c2, k2, i1, i2, i3, -⟩ := Cond.instantiable_spec wi
  cases e2.symm.trans i1
  cases e3.symm.trans i2
  obtain ⟨kU, u1, u2⟩ := al.2.2 _ _ e3
  have hB : Blank ST x D P.U := ⟨hD, ⟨knV, fun q hq => by rw [hq] at obV; cases obV⟩, by rw [al.findClass]; exact e2, kU, u1, by rw [u2]; exact i3, by rw [u2]; exact e5 i3⟩
  have F1 : Found ST "value" "[B" fV P.U := ⟨SBG.found_only al ⟨cfV, kV, iV, gV⟩, stV⟩
  have F2 : Found ST "coder" "B" fC P.U := ⟨SBG.found_only al ⟨cfC, kC, iC, gC⟩, stC⟩
  have hA : Ch b A P.U := ⟨⟨K.1, State.isArrayOf_alike al K.2.1, K.2.2, by omega⟩, hty⟩
  have hS : StaticIs P.U ST "COMPACT_STRINGS" "Z" (.int z) := by
    obtain ⟨cfS, iS, kS, fS, st, cS, t1, t2, t3, t4, t5, t6, t7⟩ := S
    exact StaticIs.there (s := { Z with heap := P.U.heap }) ⟨cfS, iS, kS, fS, st, cS, t1, t2, t3, t4, t5, (fun q => by rw [q] at t6; cases t6), t7⟩ al rfl
  obtain ⟨v, B, X', ⟨⟨hv, E', V', q1, q2, q3, q4, q5, q6, q7, q8, q9, q10, q11⟩, hl, hc, hs⟩, st⟩ := New1.pays x D fV fC b A z (tab_of (moved hZ hw)) hfr hlo m meth c P g ig mk _ X hg hsize hdg hW hn ⟨r1, r2, rfl, hB, F1, F2, hA, hS, hz, l0, l2, hp⟩
  have al' : Z.vm.Alike B.U.vm := hZ.alike.trans X'.warmed.alike
  have hsz : E'.slots.size = D.slots.size := by
    obtain ⟨-, -, -, kB, w1, w2, w3⟩ := q1
    obtain ⟨kB', y1, y2⟩ := al'.2.2 _ _ e3
    rw [q2.2.1] at w1
    cases w1.symm.trans y1
    rw [w3, e5 i3, y2]
  refine ⟨v, B, X', ⟨_, ⟨hv, ?_, ⟨by omega, fun y cy hy hn' => q10 y cy (by simpa using hn') hy, fun y cy hy => ?_⟩, q11, ⟨E', _, q1.1, by rw [q2.2.1]; exact e2, by rw [q2.2.1]; exact e3, by rw [q2.1]; exact obV, fun _ => by rw [hsz]; exact e5 i3⟩,
    ⟨E', cfV, kV, iV, fV, q1.1, gV, stV, by rw [q2.1]; exact knV, by rw [q2.1]; exact obV, by rw [q2.2.1]; exact asV, q3⟩, ⟨E', cfC, kC, iC, fC, q1.1, gC, stC, by rw [q2.1]; exact knV, by rw [q2.1]; exact obV, by rw [q2.2.1]; exact asC, q4⟩,
    ⟨V', ⟨q5.1, State.isArrayOf_alike al'.symm q5.2.1, q5.2.2.1⟩, q6, by rw [← al'.findClass]; exact q7, q8, fun j hj => by have := q9 j hj; rwa [Nat.zero_add] at this⟩, fun O n d w F n1 n2 => ?_⟩, hl, hc, hs⟩, st⟩
  · intro y hy
    simp only [List.mem_cons, List.not_mem_nil, or_false] at hy
    rcases hy with rfl | rfl <;> rfl
  · by_cases q : y = x
    · subst q
      cases hD.symm.trans hy
      exact ⟨E', q1.1, q2.2.1, q2.1, hsz⟩
    · exact ⟨cy, q10 y cy q hy, rfl, rfl, rfl⟩
  · obtain ⟨D3, cf, k, i, f, g1, g2, g3, g4, g5, g6, g7⟩ := F
    cases hD.symm.trans g1
    simp only [RoadKit.slotOf, g2, gV, gC, Option.map_some, Option.getD_some] at n1 n2
    exact ⟨E', cf, k, i, f, q1.1, g2, g3, by rw [q2.1]; exact g4, by rw [q2.1]; exact g5, by rw [q2.2.1]; exact g6, by rw [q2.2.2 f.slot (by simp [n1, n2])]; exact g7⟩
end StrChars.Road
namespace StrChars.Road
open Jvm Sem ClassFile Op Lib Jvm.Stand Jvm.Free Jvm.Free.XT
/-- WHAT COMES BACK, the byte[] as a list of values -/
def QA (Z : State) (x : Addr) (zn : Int32) (cs : List Int32) (h : Heap) (v : Option Value) (h' : Heap) (L : List Loc) : Prop := v = none ∧ (∀ y ∈ L, y.base = x) ∧ RoadKit.Keep h h' [x] ∧ h'.size = h.size + 1 ∧ RoadKit.Exa Z h' x ST ∧ RoadKit.Fld Z h' x ST "value" "[B" (.ref h.size) ∧ RoadKit.Fld Z h' x ST "coder" "B" (.int 0) ∧
  (∃ kb, Z.vm.findClass "[B" = some kb ∧ RoadKit.Arv Z h' h.size kb .byte zn (cs.map fun c => .int (lo8 c)) (.int 0)) ∧
  ∀ (O n d : String) (w : Value), RoadKit.Fld Z h x O n d w → RoadKit.slotOf Z O n d ≠ RoadKit.slotOf Z ST "value" "[B" → RoadKit.slotOf Z O n d ≠ RoadKit.slotOf Z ST "coder" "B" → RoadKit.Fld Z h' x O n d w
/-- **new String(chars) AT A CALL, THE ARRAYS AS LISTS**: the char[] at b holds cs, not empty, no char above 255 -/
theorem backArv {p : Program} {l : Launch} {e : Env} {R : Room} {s : State} {args : Array Value} {below : List Frame} {len W : Nat} {Z : State} {a0 : Array Value} {h : Heap} (hZ : Z.Warmed39 s.vm) (hw : ∀ d ∈ words, d.before a0 Z = true) {kI : Nat} (wi : (Jvm.Cond.instantiable ST kI).before a0 Z = true)
    {x b : Addr} {k : ClassId} {zn z : Int32} {cs : List Int32} {dv v0 c0 : Value} (E : RoadKit.Exa Z h x ST) (V : RoadKit.Fld Z h x ST "value" "[B" v0) (C : RoadKit.Fld Z h x ST "coder" "B" c0) (K : RoadKit.Arv Z h b k .char zn (cs.map Value.int) dv) (S : RoadKit.Sta Z h ST "COMPACT_STRINGS" "Z" (.int z)) (hz : ¬ z = 0)
    (hlen : zn.toNatClampNeg = cs.length) (h0 : 0 < cs.length) (hbig : cs.length ≤ 536870912) (hall : ∀ c ∈ cs, ¬ 255 < c) (hfr : 4 ≤ R.frames) (hlo : W + 65 ≤ R.locals) :
    Back l R p e below s args New1.yN len W (fun P a => a = #[.ref x, .ref b] ∧ P.U.heap = h ∧ P.cells + 1 ≤ R.cells ∧ P.slots + cs.length ≤ R.slots)
      (fun P _ v B => ∃ L, QA Z x zn cs h v B.U.heap L ∧ B.locs = P.locs ++ L ∧ B.cells = P.cells + 1 ∧ B.slots = P.slots + cs.length) := by
  obtain ⟨A, K1, K2, K3, K4, K5, K6⟩ := K
  have e : A.slots.size = cs.length := K3.trans hlen
  have hat : ∀ (i : Nat) (hi : i < cs.length), A.slots[i]? = some (.int cs[i]) := fun i hi => by rw [K5 i (by omega)]; simp [List.getD_eq_getElem?_getD, hi]
  have hcv : ∀ (i : Nat) (hi : i < cs.length), cv A i = cs[i] := fun i hi => by unfold cv; rw [hat i hi]
  have hty : Typed .char A := fun i v hv => by
    have hi : i < A.slots.size := (Array.getElem?_eq_some_iff.mp hv).1
    have q := K5 i hi
    rw [hv] at q
    rw [Option.some.inj q]
    exact K6 i hi
  refine Back.mono (back hZ hw wi E V C K1 hty S hz (by omega) (by omega) (fun i hi => by rw [hcv i (by omega)]; exact hall _ (List.getElem_mem _)) hfr hlo) (fun P a hp => ⟨hp.1, hp.2.1, hp.2.2.1, by rw [e]; exact hp.2.2.2⟩) (fun P a v B hp hq => ?_)
  obtain ⟨L, ⟨q1, q2, q3, q4, q5, q6, q7, ⟨V', v1, v2, v3, v4, v5⟩, q9⟩, hl, hc, hs⟩ := hq
  refine ⟨L, ⟨q1, q2, q3, q4, q5, q6, q7, ⟨V'.cls, v3, V', v1, rfl, by rw [v4, e, hlen], K4, fun i hi => ?_, fun i hi => ?_⟩, q9⟩, hl, hc, by rw [hs, e]⟩
  · have hi' : i < cs.length := by omega
    rw [v5 i (by omega), hcv i hi']; simp [List.getD_eq_getElem?_getD, hi']
  · have hi' : i < cs.length := by omega
    simp only [List.getD_eq_getElem?_getD, List.getElem?_map, List.getElem?_eq_getElem hi', Option.map_some, Option.getD_some]
    exact fits_lo8 _
end StrChars.Road
namespace StrChars.Road
open Jvm Sem ClassFile Op Lib Jvm.Stand Jvm.Free Jvm.Free.XT
/-- WHAT COMES BACK, in the writer's own shape -/
def QV (Z : State) (x : Addr) (N : Int32) (bs : List Int32) (h : Heap) (n0 : Nat) (v : Option Value) (h' : Heap) (L : List Loc) : Prop := v = none ∧ RoadKit.Fr n0 L ∧ RoadKit.Keep h h' [x] ∧ RoadKit.Exa Z h' x ST ∧ RoadKit.Fld Z h' x ST "coder" "B" (.int 0) ∧
  ∃ (t : Addr) (kb : ClassId), n0 ≤ t ∧ h.size ≤ t ∧ ¬ t = x ∧ RoadKit.Fld Z h' x ST "value" "[B" (.ref t) ∧ RoadKit.Arv Z h' t kb .byte N (bs.map Value.int) (.int 0)
/-- **new String(chars) AT A CALL, FOR THE WRITER**: a char[] of n known ints, each 0 to 255 -/
theorem backV {p : Program} {l : Launch} {e : Env} {R : Room} {s : State} {args : Array Value} {below : List Frame} {len W : Nat} {Z : State} {a0 : Array Value} {h : Heap} (hZ : Z.Warmed39 s.vm) (hw : ∀ d ∈ words, d.before a0 Z = true) {kI : Nat} (wi : (Jvm.Cond.instantiable ST kI).before a0 Z = true)
    {x b : Addr} {kC : ClassId} {cs bs : List Int32} {d v0 c0 : Value} {z N : Int32} {n n0 : Nat} (hx0 : n0 ≤ x) (hh0 : n0 ≤ h.size) (E : RoadKit.Exa Z h x ST) (V : RoadKit.Fld Z h x ST "value" "[B" v0) (C : RoadKit.Fld Z h x ST "coder" "B" c0) (K : RoadKit.Arv Z h b kC .char N (cs.map Value.int) d) (S : RoadKit.Sta Z h ST "COMPACT_STRINGS" "Z" (.int z)) (hz : ¬ z = 0)
    (hn : cs.length = n) (hN : N = Int32.ofNat n) (l0 : 0 < n) (l2 : n ≤ 4000) (hp : ∀ c ∈ cs, ¬ c < 0 ∧ ¬ (255 : Int32) < c) (hb : bs = cs.map (fun c => c.toInt8.toInt32)) (hfr : 4 ≤ R.frames) (hlo : W + 65 ≤ R.locals) :
    Back l R p e below s args (⟨"java/lang/String", "<init>", "([C)V"⟩ : MethodName) len W (fun P a => a = #[.ref x, .ref b] ∧ P.U.heap = h ∧ P.cells + 1 ≤ R.cells ∧ P.slots + n ≤ R.slots)
      (fun P _ v B => ∃ L, QV Z x N bs h n0 v B.U.heap L ∧ B.locs = P.locs ++ L ∧ B.cells = P.cells + 1 ∧ B.slots = P.slots + n) := by
  subst hn hN hb
  refine Back.mono (backArv hZ hw wi E V C K S hz (n32 (by omega)) l0 (by omega) (fun c hc => (hp c hc).2) hfr hlo) (fun P a hp => hp) (fun P a v B hp hq => ?_)
  obtain ⟨L, ⟨q1, q2, q3, q4, q5, q6, q7, ⟨kb, v1, v2⟩, q9⟩, hl, hc, hs⟩ := hq
  exact ⟨L, ⟨q1, fun y hy => by rw [q2 y hy]; exact hx0, q3, q5, q7, h.size, kb, hh0, Nat.le_refl _, Nat.ne_of_gt E.lt, q6, by rw [List.map_map]; exact v2⟩, hl, hc, hs⟩
end StrChars.Road
namespace StrChars
open Jvm Sem ClassFile Op Lib Jvm.Stand Jvm.Free.XT Jvm.Free.ALB Jvm.Free.JM Jvm.Free
open Jvm.Lib.Cold (StaticIs)
def hi8 (x : Int32) : Int32 := lo8 (x >>> ((8 : Int32) &&& 31))
/-- what StringUTF16.getChar makes of two bytes -/
def pairCh (u v : Int32) : Int32 := (((u &&& 255) <<< ((0 : Int32) &&& 31)) ||| ((v &&& 255) <<< ((8 : Int32) &&& 31))).toUInt32.toUInt16.toUInt32.toInt32
theorem lo8_and (x : Int32) : (lo8 x &&& 255).toBitVec.toNat = x.toBitVec.toNat % 256 := by
  have h : (lo8 x).toBitVec = (x.toBitVec.signExtend 8).signExtend 32 := by rw [lo8, Int8.toBitVec_toInt32, Int32.toBitVec_toInt8]
  rw [Int32.toBitVec_and, BitVec.toNat_and, h]
  have e : ((x.toBitVec.signExtend 8).signExtend 32).toNat % 256 = x.toBitVec.toNat % 256 := by
    rw [BitVec.toNat_signExtend]
    have hlt := x.toBitVec.isLt
    simp only [BitVec.toNat_setWidth, BitVec.toNat_signExtend]
    split <;> split <;> omega
  rw [← e]
  exact Nat.and_two_pow_sub_one_eq_mod _ 8
theorem pair_says {c : Int32} (h0 : ¬ c < 0) (h1 : ¬ 65535 < c) : pairCh (lo8 c) (hi8 c) = c := by
  rw [Int32.lt_iff_toInt_lt] at h0 h1
  have e0 : (0 : Int32).toInt = 0 := rfl
  have e1 : (65535 : Int32).toInt = 65535 := rfl
  have hc : c.toInt = c.toBitVec.toNat := by
    have := c.toBitVec.isLt
    have e : c.toInt = c.toBitVec.toInt := rfl
    rw [e] at h0 h1
    rw [e]
    rw [BitVec.toInt_eq_toNat_cond] at h0 h1 ⊢
    split at h0 <;> split <;> omega
  have hn : c.toBitVec.toNat < 65536 := by omega
  have a1 := lo8_and c
  have a2 : (hi8 c &&& 255).toBitVec.toNat = c.toBitVec.toNat / 256 := by
    rw [hi8, lo8_and]
    have e : ((8 : Int32) &&& 31) = 8 := by decide
    rw [e, Int32.toBitVec_shiftRight]
    have e2 : ((8 : Int32).toBitVec.smod 32) = 8#32 := by decide
    rw [e2, BitVec.sshiftRight_eq', BitVec.toNat_sshiftRight_of_msb_false (by rw [BitVec.msb_eq_false_iff_two_mul_lt]; omega)]
    show c.toBitVec.toNat >>> 8 % 256 = _
    rw [Nat.shiftRight_eq_div_pow]
    omega
  unfold pairCh
  apply Int32.toBitVec_inj.mp
  apply BitVec.eq_of_toNat_eq
  have f0 : ((0 : Int32) &&& 31) = 0 := by decide
  have f8 : ((8 : Int32) &&& 31) = 8 := by decide
  rw [f0, f8]
  have g : (((lo8 c &&& 255) <<< (0 : Int32)) ||| ((hi8 c &&& 255) <<< (8 : Int32))).toBitVec.toNat = c.toBitVec.toNat := by
    rw [Int32.toBitVec_or, Int32.toBitVec_shiftLeft, Int32.toBitVec_shiftLeft]
    have s0 : ((0 : Int32).toBitVec.smod 32) = 0#32 := by decide
    have s8 : ((8 : Int32).toBitVec.smod 32) = 8#32 := by decide
    rw [s0, s8, BitVec.toNat_or]
    simp only [BitVec.shiftLeft_eq', BitVec.toNat_shiftLeft, a1, a2]
    show (c.toBitVec.toNat % 256) <<< 0 % 2 ^ 32 ||| (c.toBitVec.toNat / 256) <<< 8 % 2 ^ 32 = _
    rw [Nat.shiftLeft_zero, Nat.mod_eq_of_lt (show c.toBitVec.toNat % 256 < 2 ^ 32 by omega), Nat.mod_eq_of_lt (show (c.toBitVec.toNat / 256) <<< 8 < 2 ^ 32 by rw [Nat.shiftLeft_eq]; omega), Nat.or_comm, ← Nat.shiftLeft_add_eq_or_of_lt (by omega), Nat.shiftLeft_eq]
    omega
  show BitVec.toNat (((((lo8 c &&& 255) <<< (0 : Int32)) ||| ((hi8 c &&& 255) <<< (8 : Int32))).toBitVec.setWidth 16).setWidth 32) = _
  rw [BitVec.toNat_setWidth, BitVec.toNat_setWidth, g]
  omega
end StrChars
namespace StrChars
open Jvm Sem ClassFile Op Lib Jvm.Stand Jvm.Free.XT Jvm.Free.ALB Jvm.Free.JM Jvm.Free
open Jvm.Lib.Cold (StaticIs)
/-- the array's cell V codes the n chars f 0 .. f (n - 1) by the coder cd, as the JDK does: coder 1 just where some char is above 255 -/
def Cod (cd : Int32) (n : Nat) (f : Nat → Int32) (V : Cell) : Prop := (cd = 0 ∧ V.slots.size = n ∧ ∀ j, j < n → V.slots[j]? = some (.int (lo8 (f j))) ∧ ¬ 255 < f j) ∨ (cd = 1 ∧ V.slots.size = 2 * n ∧ (∀ j, j < n → V.slots[2 * j]? = some (.int (lo8 (f j))) ∧ V.slots[2 * j + 1]? = some (.int (hi8 (f j)))) ∧ ∃ j, j < n ∧ 255 < f j)
/-- **x is a String of the n chars f 0 .. f (n - 1)**, Latin-1 or UTF-16; its array at t has the cell V -/
def Txt (x t : Addr) (V : Cell) (cd : Int32) (n : Nat) (f : Nat → Int32) (U : State) : Prop := Exact "java/lang/String" x U ∧ Has x "java/lang/String" "value" "[B" (.ref t) U ∧ Has x "java/lang/String" "coder" "B" (.int cd) U ∧ XT.Arr .byte t V U ∧ Cod cd n f V ∧ ∀ j, j < n → ¬ f j < 0 ∧ ¬ 65535 < f j
theorem Txt.mv {x t : Addr} {V : Cell} {cd : Int32} {n : Nat} {f : Nat → Int32} {U U' : State} (h : Txt x t V cd n f U) (hal : U.vm.Alike U'.vm) (hh : U'.heap = U.heap) : Txt x t V cd n f U' := ⟨h.1.mv hal hh, h.2.1.mv hal hh, h.2.2.1.mv hal hh, h.2.2.2.1.mv hal hh, h.2.2.2.2⟩
end StrChars
namespace StrChars.Road
open Jvm Sem ClassFile Op Lib Jvm.Stand Jvm.Free Jvm.Free.XT
open Jvm.Lib.Cold (StaticIs)
theorem consq {a : Array Value} {s : State} {c : Jvm.Cond} {L : List Jvm.Cond} (h0 : c.before a s = true) (h : ∀ w ∈ L, w.before a s = true) : ∀ w ∈ c :: L, w.before a s = true := fun w hw => (List.mem_cons.mp hw).elim (fun e => e ▸ h0) (h w)
/-- the bytes of the chars cs, low before high -/
def wideBytes : List Int32 → List Value
  | [] => []
  | c :: cs => .int (lo8 c) :: .int (hi8 c) :: wideBytes cs
theorem wide_lo (d : Value) : ∀ (cs : List Int32) (j : Nat), j < cs.length → (wideBytes cs).getD (2 * j) d = .int (lo8 (cs.getD j 0))
  | [], j, h => absurd h (Nat.not_lt_zero j)
  | c :: cs, 0, _ => rfl
  | c :: cs, j + 1, h => by
    have q := wide_lo d cs j (by simpa using h)
    rw [show 2 * (j + 1) = 2 * j + 1 + 1 from by omega]
    simpa [wideBytes] using q
theorem wide_hi (d : Value) : ∀ (cs : List Int32) (j : Nat), j < cs.length → (wideBytes cs).getD (2 * j + 1) d = .int (hi8 (cs.getD j 0))
  | [], j, h => absurd h (Nat.not_lt_zero j)
  | c :: cs, 0, _ => rfl
  | c :: cs, j + 1, h => by
    have q := wide_hi d cs j (by simpa using h)
    rw [show 2 * (j + 1) + 1 = 2 * j + 1 + 1 + 1 from by omega]
    simpa [wideBytes] using q
theorem low_at (d : Value) (cs : List Int32) (j : Nat) (h : j < cs.length) : (cs.map fun c => Value.int (lo8 c)).getD j d = .int (lo8 (cs.getD j 0)) := by
  simp [List.getD_eq_getElem?_getD, h]
/-- an array of N2 bytes vs codes the chars cs by the coder cd -/
def CodA (cs : List Int32) (cd N2 : Int32) (vs : List Value) : Prop := (cd = 0 ∧ N2 = Int32.ofNat cs.length ∧ vs = (cs.map fun c => Value.int (lo8 c)) ∧ ∀ c ∈ cs, ¬ 255 < c) ∨ (cd = 1 ∧ N2 = Int32.ofNat (2 * cs.length) ∧ vs = wideBytes cs ∧ ∃ c ∈ cs, 255 < c)
theorem CodA.cod {cs : List Int32} {cd N2 : Int32} {vs : List Value} {V : Cell} (h : CodA cs cd N2 vs) (hn : 2 * cs.length < 2 ^ 31) (hs : V.slots.size = N2.toNatClampNeg) (hv : RoadKit.Has V vs (.int 0)) : Cod cd cs.length (fun j => cs.getD j 0) V := by
  rcases h with ⟨rfl, rfl, rfl, h⟩ | ⟨rfl, rfl, rfl, c, hc, hw⟩
  · rw [n32 (by omega)] at hs
    exact Or.inl ⟨rfl, hs, fun j hj => ⟨by rw [hv j (by omega), low_at _ _ _ hj], by
      have e : cs.getD j 0 = cs[j] := by simp [List.getD_eq_getElem?_getD, hj]
      show ¬ 255 < cs.getD j 0
      rw [e]; exact h _ (List.getElem_mem _)⟩⟩
  · rw [n32 (by omega)] at hs
    obtain ⟨j, hj, rfl⟩ := List.getElem_of_mem hc
    exact Or.inr ⟨rfl, hs, fun j hj => ⟨by rw [hv _ (by omega), wide_lo _ _ _ hj], by rw [hv _ (by omega), wide_hi _ _ _ hj]⟩, j, hj, by
      have e : cs.getD j 0 = cs[j] := by simp [List.getD_eq_getElem?_getD, hj]
      show 255 < cs.getD j 0
      rw [e]; exact hw⟩
/-- an object of exactly java/lang/String, its two fields found: as the laws ask it -/
theorem strObj {Z U : State} {a0 : Array Value} {kI : Nat} (wi : (Jvm.Cond.instantiable ST kI).before a0 Z = true) (al : Z.vm.Alike U.vm) {x : Addr} {v0 c0 : Value} (E : RoadKit.Exa Z U.heap x ST) (V : RoadKit.Fld Z U.heap x ST "value" "[B" v0) (C : RoadKit.Fld Z U.heap x ST "coder" "B" c0) :
    ∃ (D : Cell) (fV fC : Field), Blank ST x D U ∧ Found ST "value" "[B" fV U ∧ Found ST "coder" "B" fC U ∧ D.slots[fV.slot]? = some v0 ∧ D.slots[fC.slot]? = some c0 ∧ RoadKit.slotOf Z ST "value" "[B" = fV.slot ∧ RoadKit.slotOf Z ST "coder" "B" = fC.slot := by
  obtain ⟨D, cfV, kV, iV, fV, hD, gV, stV, knV, obV, asV, slV⟩ := V
  obtain ⟨D', cfC, kC, iC, fC, hD', gC, stC, -, -, asC, slC⟩ := C
  cases hD.symm.trans hD'
  obtain ⟨D2, kD, e1, e2, e3, e4, e5⟩ := E
  cases hD.symm.trans e1
  obtain ⟨c2, k2, i1, i2, i3, -⟩ := Cond.instantiable_spec wi
  cases e2.symm.trans i1
  cases e3.symm.trans i2
  obtain ⟨kU, u1, u2⟩ := al.2.2 _ _ e3
  exact ⟨D, fV, fC, ⟨hD, ⟨knV, fun q hq => by rw [hq] at obV; cases obV⟩, by rw [al.findClass]; exact e2, kU, u1, by rw [u2]; exact i3, by rw [u2]; exact e5 i3⟩, ⟨SBG.found_only al ⟨cfV, kV, iV, gV⟩, stV⟩, ⟨SBG.found_only al ⟨cfC, kC, iC, gC⟩, stC⟩, slV, slC, by simp [RoadKit.slotOf, gV], by simp [RoadKit.slotOf, gC]⟩
theorem sta_is {Z U : State} (al : Z.vm.Alike U.vm) {C n d : String} {v : Value} (S : RoadKit.Sta Z U.heap C n d v) : StaticIs U C n d v := by
  obtain ⟨cfS, iS, kS, fS, st, cS, t1, t2, t3, t4, t5, t6, t7⟩ := S
  exact StaticIs.there (s := { Z with heap := U.heap }) ⟨cfS, iS, kS, fS, st, cS, t1, t2, t3, t4, t5, (fun q => by rw [q] at t6; cases t6), t7⟩ al rfl
end StrChars.Road
namespace StrChars
open Jvm Sem ClassFile Op Lib Jvm.Stand Jvm.Free.XT Jvm.Free.ALB Jvm.Free.JM Jvm.Free
open Jvm.Lib.Cold (StaticIs)
/-- what place i of a byte[]'s cell holds -/
def yv (A : Cell) (i : Nat) : Int32 := match A.slots[i]? with | some (.int x) => x | _ => 0
theorem yv_get {a : Addr} {A : Cell} {U : State} (h : XT.Arr .byte a A U) (ht : Typed .byte A) {i : Nat} (hi : i < A.slots.size) : A.slots[i]? = some (.int (yv A i)) := by
  have e := Array.getElem?_eq_getElem hi
  have f := ht i _ e
  unfold yv; rw [e]
  generalize A.slots[i] = v at f
  cases v <;> simp [fits] at f ⊢
/-- the two arrays are equal, place for place -/
def EqC (A B : Cell) : Prop := A.slots.size = B.slots.size ∧ ∀ i, i < A.slots.size → yv A i = yv B i
/-- a boolean that says whether p -/
def Says01 (q : Prop) (r : Option Value) (s u : State) : Prop := ∃ v : Int32, r = some (.int v) ∧ u.heap = s.heap ∧ ((v = 1 ∧ q) ∨ (v = 0 ∧ ¬ q))
theorem Says01.mv {q : Prop} : ∀ r (U U' V V' : State), U'.heap = U.heap → V.vm.Alike V'.vm → V'.heap = V.heap → Says01 q r U V → Says01 q r U' V' :=
  fun r U U' V V' h1 _ h2 ⟨v, a, b, c⟩ => ⟨v, a, by rw [h1, h2]; exact b, c⟩
namespace LEq
def yN : MethodName := ⟨"java/lang/StringLatin1", "equals", "([B[B)Z"⟩
abbrev yB : ByteArray := jdk_43_method_13_code
theorem d0 : decode yB 0 = .ok (.aload_n 0, 1) := by decide +kernel
theorem d1 : decode yB 1 = .ok (.arraylength, 1) := by decide +kernel
theorem d2 : decode yB 2 = .ok (.aload_n 1, 1) := by decide +kernel
theorem d3 : decode yB 3 = .ok (.arraylength, 1) := by decide +kernel
theorem d4 : decode yB 4 = .ok (.if_icmp (.ne) 30, 3) := by decide +kernel
theorem d7 : decode yB 7 = .ok (.iconst 0, 1) := by decide +kernel
theorem d8 : decode yB 8 = .ok (.istore_n 2, 1) := by decide +kernel
theorem d9 : decode yB 9 = .ok (.iload_n 2, 1) := by decide +kernel
theorem d10 : decode yB 10 = .ok (.aload_n 0, 1) := by decide +kernel
theorem d11 : decode yB 11 = .ok (.arraylength, 1) := by decide +kernel
theorem d12 : decode yB 12 = .ok (.if_icmp (.ge) 20, 3) := by decide +kernel
theorem d15 : decode yB 15 = .ok (.aload_n 0, 1) := by decide +kernel
theorem d16 : decode yB 16 = .ok (.iload_n 2, 1) := by decide +kernel
theorem d17 : decode yB 17 = .ok (.baload, 1) := by decide +kernel
theorem d18 : decode yB 18 = .ok (.aload_n 1, 1) := by decide +kernel
theorem d19 : decode yB 19 = .ok (.iload_n 2, 1) := by decide +kernel
theorem d20 : decode yB 20 = .ok (.baload, 1) := by decide +kernel
theorem d21 : decode yB 21 = .ok (.if_icmp (.eq) 5, 3) := by decide +kernel
theorem d24 : decode yB 24 = .ok (.iconst 0, 1) := by decide +kernel
theorem d25 : decode yB 25 = .ok (.ireturn, 1) := by decide +kernel
theorem d26 : decode yB 26 = .ok (.iinc 2 1, 3) := by decide +kernel
theorem d29 : decode yB 29 = .ok (.goto (-20), 3) := by decide +kernel
theorem d32 : decode yB 32 = .ok (.iconst 1, 1) := by decide +kernel
theorem d33 : decode yB 33 = .ok (.ireturn, 1) := by decide +kernel
theorem d34 : decode yB 34 = .ok (.iconst 0, 1) := by decide +kernel
theorem d35 : decode yB 35 = .ok (.ireturn, 1) := by decide +kernel
def site : List Cond := []
def tab : Cond := tabOf yN yB 3 (some .boolean) site
def P (a : Addr) (A : Cell) (b : Addr) (B : Cell) (args : Array Value) (s : State) : Prop := args = #[.ref a, .ref b] ∧ XT.Arr .byte a A s ∧ Typed .byte A ∧ XT.Arr .byte b B s ∧ Typed .byte B
/-- whether two byte[] are equal, place for place -/
theorem law (l : Launch) (a : Addr) (A : Cell) (b : Addr) (B : Cell) : Law l yN 2 2 0 0 yB 3 (some .boolean) site (P a A b B) (Says01 (EqC A B)) [] 0 0 := by
  refine Law.of_walk (plainFor_of_name (by decide +kernel)) (by decide +kernel) (by decide +kernel) (by decide) (fun _ _ h => by rw [h.1]; rfl) (fun _ U U' hal hh h => ⟨h.1, h.2.1.mv hal hh, h.2.2.1, h.2.2.2.1.mv hal hh, h.2.2.2.2⟩) (fun r U U' V V' h1 hal h2 h => Says01.mv r U U' V V' h1 hal h2 h) ?_
  intro p e s m args below meth c s₁ X0 hexec hbytes hml hret hlk hnm hown hh0 W hP
  obtain ⟨rfl, hA, tA, hB, tB⟩ := hP
  have a31 := hA.2.2.2
  have b31 := hB.2.2.2
  have hA0 := hA.mv X0.warmed.alike hh0
  have hB0 := hB.mv X0.warmed.alike hh0
  have c1 : Steps p.tables e below (s₁.setTop (entryFrame m #[.ref a, .ref b] 3)) (s₁.setTop (mkF m 0 #[.val (.ref a), .val (.ref b), .unset] [])) := entry rfl
  have c2 : Steps p.tables e below (s₁.setTop (entryFrame m #[.ref a, .ref b] 3)) (s₁.setTop (mkF m 4 #[.val (.ref a), .val (.ref b), .unset] [.int (Int32.ofNat B.slots.size), .int (Int32.ofNat A.slots.size)])) := c1.trans (by
    refine XS.aloadN X0.here hexec rfl (hb hbytes d0) rfl rfl ?_
    refine X0.alen hexec hA0 rfl rfl (hb hbytes d1) ?_
    refine XS.aloadN X0.here hexec rfl (hb hbytes d2) rfl rfl ?_
    refine X0.alen hexec hB0 rfl rfl (hb hbytes d3) ?_
    exact Steps.refl _)
  by_cases hs : A.slots.size = B.slots.size
  · have c3 : Steps p.tables e below (s₁.setTop (entryFrame m #[.ref a, .ref b] 3)) (s₁.setTop (mkF m 9 #[.val (.ref a), .val (.ref b), .val (.int 0)] [])) := c2.trans (by
      refine XS.icmpNo X0.here hexec rfl (hb hbytes d4) rfl (ii_ne_f (by rw [hs])) ?_
      refine iconstV X0.here hexec rfl 0 (hb hbytes d7) (by decide) ?_
      refine XS.istoreN X0.here hexec rfl (hb hbytes d8) rfl rfl ?_
      exact Steps.refl _)
    have loop : ∀ (r i : Nat), i + r = A.slots.size → (∀ j, j < i → yv A j = yv B j) → Steps p.tables e below (s₁.setTop (entryFrame m #[.ref a, .ref b] 3)) (s₁.setTop (mkF m 9 #[.val (.ref a), .val (.ref b), .val (.int (Int32.ofNat i))] [])) → ∃ (pc : Nat) (Ls : Array Slot) (v : Int32), (pc = 25 ∨ pc = 33) ∧ ((v = 1 ∧ EqC A B) ∨ (v = 0 ∧ ¬ EqC A B)) ∧ Steps p.tables e below (s₁.setTop (entryFrame m #[.ref a, .ref b] 3)) (s₁.setTop (mkF m pc Ls [.int v])) := by
      intro r
      induction r with
      | zero =>
        intro i hi he cl
        exact ⟨33, _, 1, Or.inr rfl, Or.inl ⟨rfl, hs, fun j hj => he j (by omega)⟩, cl.trans (by
          refine XS.iloadN X0.here hexec rfl (hb hbytes d9) rfl ?_
          refine XS.aloadN X0.here hexec rfl (hb hbytes d10) rfl rfl ?_
          refine X0.alen hexec hA0 rfl rfl (hb hbytes d11) ?_
          refine XS.icmpYes X0.here hexec rfl (pc0 := 12) rfl (hb hbytes d12) rfl (ii_ge_t (nlt32 (by omega) (by omega))) (by decide) rfl ?_
          refine iconstV X0.here hexec rfl 1 (hb hbytes d32) (by decide) ?_
          exact Steps.refl _)⟩
      | succ r ih =>
        intro i hi he cl
        have c4 : Steps p.tables e below (s₁.setTop (entryFrame m #[.ref a, .ref b] 3)) (s₁.setTop (mkF m 21 #[.val (.ref a), .val (.ref b), .val (.int (Int32.ofNat i))] [.int (yv B i), .int (yv A i)])) := cl.trans (by
          refine XS.iloadN X0.here hexec rfl (hb hbytes d9) rfl ?_
          refine XS.aloadN X0.here hexec rfl (hb hbytes d10) rfl rfl ?_
          refine X0.alen hexec hA0 rfl rfl (hb hbytes d11) ?_
          refine XS.icmpNo X0.here hexec rfl (hb hbytes d12) rfl (ii_ge_f (lt32 (by omega) (by omega))) ?_
          refine XS.aloadN X0.here hexec rfl (hb hbytes d15) rfl rfl ?_
          refine XS.iloadN X0.here hexec rfl (hb hbytes d16) rfl ?_
          refine X0.aget hexec hA0 rfl (yv_get hA tA (i := i) (by omega)) rfl rfl (hb hbytes d17) ?_
          refine XS.aloadN X0.here hexec rfl (hb hbytes d18) rfl rfl ?_
          refine XS.iloadN X0.here hexec rfl (hb hbytes d19) rfl ?_
          refine X0.aget hexec hB0 rfl (yv_get hB tB (i := i) (by omega)) rfl rfl (hb hbytes d20) ?_
          exact Steps.refl _)
        by_cases hv : yv A i = yv B i
        · have c5 : Steps p.tables e below (s₁.setTop (entryFrame m #[.ref a, .ref b] 3)) (s₁.setTop (mkF m 9 #[.val (.ref a), .val (.ref b), .val (.int (Int32.ofNat i + 1))] [])) := c4.trans (by
            refine XS.icmpYes X0.here hexec rfl (pc0 := 21) rfl (hb hbytes d21) rfl (ii_eq_t hv) (by decide) rfl ?_
            refine iincV X0.here hexec rfl 1 (hb hbytes d26) (by decide) rfl rfl ?_
            refine XS.goto X0.here hexec rfl (pc0 := 29) rfl (hb hbytes d29) (by decide) rfl ?_
            exact Steps.refl _)
          rw [succ32] at c5
          exact ih (i + 1) (by omega) (fun j hj => by
            by_cases e : j = i
            · rw [e]; exact hv
            · exact he j (by omega)) c5
        · exact ⟨25, _, 0, Or.inl rfl, Or.inr ⟨rfl, fun q => hv (q.2 i (by omega))⟩, c4.trans (by
            refine XS.icmpNo X0.here hexec rfl (hb hbytes d21) rfl (ii_eq_f hv) ?_
            refine iconstV X0.here hexec rfl 0 (hb hbytes d24) (by decide) ?_
            exact Steps.refl _)⟩
    obtain ⟨pc, Ls, v, hpc, hv, cz⟩ := loop A.slots.size 0 (by omega) (fun j hj => absurd hj (Nat.not_lt_zero j)) c3
    have nv : narrow .boolean (.int v) = .int v := by rcases hv with ⟨rfl, -⟩ | ⟨rfl, -⟩ <;> rfl
    rcases hpc with rfl | rfl
    · exact ⟨s₁, some (.int v), _, _, _, X0, rfl, rfl, rfl, (fun h => by cases h), ⟨v, rfl, hh0, hv⟩, fun fs hl => cz.trans (X0.ireturnOut hexec hret nv (Or.inr (Or.inl rfl)) (hb hbytes d25) hl)⟩
    · exact ⟨s₁, some (.int v), _, _, _, X0, rfl, rfl, rfl, (fun h => by cases h), ⟨v, rfl, hh0, hv⟩, fun fs hl => cz.trans (X0.ireturnOut hexec hret nv (Or.inr (Or.inl rfl)) (hb hbytes d33) hl)⟩
  · have c3 : Steps p.tables e below (s₁.setTop (entryFrame m #[.ref a, .ref b] 3)) (s₁.setTop (mkF m 35 #[.val (.ref a), .val (.ref b), .unset] [.int 0])) := c2.trans (by
      refine XS.icmpYes X0.here hexec rfl (pc0 := 4) rfl (hb hbytes d4) rfl (ii_ne_t (ne32 a31 b31 hs)) (by decide) rfl ?_
      refine iconstV X0.here hexec rfl 0 (hb hbytes d34) (by decide) ?_
      exact Steps.refl _)
    exact ⟨s₁, some (.int 0), _, _, _, X0, rfl, rfl, rfl, (fun h => by cases h), ⟨0, rfl, hh0, Or.inr ⟨rfl, fun q => hs q.1⟩⟩, fun fs hl => c3.trans (X0.ireturnOut hexec hret rfl (Or.inr (Or.inl rfl)) (hb hbytes d35) hl)⟩
end LEq
theorem Cod.ty {cd : Int32} {n : Nat} {f : Nat → Int32} {V : Cell} (h : Cod cd n f V) : Typed .byte V := fun i v hv => by
  have hi : i < V.slots.size := (Array.getElem?_eq_some_iff.mp hv).1
  rcases h with ⟨-, k1, k2⟩ | ⟨-, k1, k2, -⟩
  · rw [(k2 i (by omega)).1] at hv; cases hv; exact fits_lo8 _
  · rcases Nat.mod_two_eq_zero_or_one i with e | e
    · obtain ⟨j, rfl⟩ : ∃ j, i = 2 * j := ⟨i / 2, by omega⟩
      rw [(k2 j (by omega)).1] at hv; cases hv; exact fits_lo8 _
    · obtain ⟨j, rfl⟩ : ∃ j, i = 2 * j + 1 := ⟨i / 2, by omega⟩
      rw [(k2 j (by omega)).2] at hv; cases hv; exact fits_lo8 _
/-- the same text -/
def SameT (n : Nat) (f : Nat → Int32) (k : Nat) (g : Nat → Int32) : Prop := n = k ∧ ∀ j, j < n → f j = g j
theorem lo8_inj {x y : Int32} (h0 : ¬ x < 0) (h1 : ¬ 255 < x) (k0 : ¬ y < 0) (k1 : ¬ 255 < y) (h : lo8 x = lo8 y) : x = y := by
  rw [← lo8_mask h0 h1, ← lo8_mask k0 k1, h]
/-- arrays coded by one coder are equal just where the texts are -/
theorem Cod.eqv {cd : Int32} {n k : Nat} {f g : Nat → Int32} {V V' : Cell} (h : Cod cd n f V) (h' : Cod cd k g V') (hf : ∀ j, j < n → ¬ f j < 0 ∧ ¬ 65535 < f j) (hg : ∀ j, j < k → ¬ g j < 0 ∧ ¬ 65535 < g j) : EqC V V' ↔ SameT n f k g := by
  have yvv : ∀ {W : Cell} {i : Nat} {x : Int32}, W.slots[i]? = some (.int x) → yv W i = x := fun q => by unfold yv; rw [q]
  rcases h with ⟨rfl, k1, k2⟩ | ⟨rfl, k1, k2, -⟩
  · rcases h' with ⟨-, m1, m2⟩ | ⟨e, -⟩
    · constructor
      · rintro ⟨e1, e2⟩
        refine ⟨by omega, fun j hj => ?_⟩
        have q := e2 j (by omega)
        rw [yvv (k2 j hj).1, yvv (m2 j (by omega)).1] at q
        exact lo8_inj (hf j hj).1 (k2 j hj).2 (hg j (by omega)).1 (m2 j (by omega)).2 q
      · rintro ⟨rfl, e2⟩
        refine ⟨by omega, fun j hj => ?_⟩
        rw [yvv (k2 j (by omega)).1, yvv (m2 j (by omega)).1, e2 j (by omega)]
    · exact absurd e (by decide)
  · rcases h' with ⟨e, -⟩ | ⟨-, m1, m2, -⟩
    · exact absurd e (by decide)
    · constructor
      · rintro ⟨e1, e2⟩
        refine ⟨by omega, fun j hj => ?_⟩
        have q1 := e2 (2 * j) (by omega)
        have q2 := e2 (2 * j + 1) (by omega)
        rw [yvv (k2 j hj).1, yvv (m2 j (by omega)).1] at q1
        rw [yvv (k2 j hj).2, yvv (m2 j (by omega)).2] at q2
        rw [← pair_says (hf j hj).1 (hf j hj).2, ← pair_says (hg j (by omega)).1 (hg j (by omega)).2, q1, q2]
      · rintro ⟨rfl, e2⟩
        refine ⟨by omega, fun i hi => ?_⟩
        rcases Nat.mod_two_eq_zero_or_one i with e | e
        · obtain ⟨j, rfl⟩ : ∃ j, i = 2 * j := ⟨i / 2, by omega⟩
          rw [yvv (k2 j (by omega)).1, yvv (m2 j (by omega)).1, e2 j (by omega)]
        · obtain ⟨j, rfl⟩ : ∃ j, i = 2 * j + 1 := ⟨i / 2, by omega⟩
          rw [yvv (k2 j (by omega)).2, yvv (m2 j (by omega)).2, e2 j (by omega)]
/-- two codings differ: so do the texts -/
theorem Cod.dif {cd cd' : Int32} {n k : Nat} {f g : Nat → Int32} {V V' : Cell} (h : Cod cd n f V) (h' : Cod cd' k g V') (hne : ¬ cd = cd') : ¬ SameT n f k g := by
  rintro ⟨rfl, e⟩
  rcases h with ⟨rfl, -, k2⟩ | ⟨rfl, -, -, j, hj, hw⟩
  · rcases h' with ⟨rfl, -⟩ | ⟨-, -, -, j, hj, hw⟩
    · exact hne rfl
    · exact (k2 j hj).2 (by rw [e j hj]; exact hw)
  · rcases h' with ⟨-, -, m2⟩ | ⟨rfl, -⟩
    · exact (m2 j hj).2 (by rw [← e j hj]; exact hw)
    · exact hne rfl
/-- an object of exactly C is an instance of C -/
theorem cinst {p : Program} {l : Launch} {e : Env} {R : Room} {s : State} {m : MethodId} {args : Array Value} {below : List Frame} {meth : Method} {c : Code} {T : State} {locs : List Loc} {cells slots : Nat} (X : Stand p l e R s m args below meth c T locs cells slots) (hexec : p.tables.exec = Jvm.exec) {own C : String} {index : Nat} (hown : s.vm.findClass own = some m.cls) (hlink : (Cond.classLink own index C).before args s = true) {a : Addr} (hE : Exact C a T)
    {g : JFrame} (hg : g.method = m) {rest : List Value} (hstack : g.stack = .ref a :: rest) (hdg : decode c.code g.pc = .ok (.instanceof index, 3)) :
    ∃ T', Stand p l e R s m args below meth c T' locs cells slots ∧ T'.heap = T.heap ∧ ∀ target, Steps p.tables e below (T'.setTop { g with pc := g.pc + 3, stack := .int 1 :: rest }) target → Steps p.tables e below (T.setTop g) target := by
  obtain ⟨cB, h1, D, h2, h3, h4⟩ := hE
  have h1' : s.vm.findClass C = some cB := by rw [← X.warmed.alike.findClass]; exact h1
  obtain ⟨vm', X', st⟩ := X.instanceofYes hexec hown hlink h2 h4 h1' (by rw [h3]; exact Jvm.Free.SB.assignable_self _ _) hg hstack hdg
  exact ⟨_, X', rfl, st⟩
theorem cself {p : Program} {l : Launch} {e : Env} {R : Room} {s : State} {m : MethodId} {args : Array Value} {below : List Frame} {meth : Method} {c : Code} {T : State} {locs : List Loc} {cells slots : Nat} (X : Stand p l e R s m args below meth c T locs cells slots) (hexec : p.tables.exec = Jvm.exec) {own C : String} {index : Nat} (hown : s.vm.findClass own = some m.cls) (hlink : (Cond.classLink own index C).before args s = true) {a : Addr} (hE : Exact C a T)
    {g : JFrame} (hg : g.method = m) {rest : List Value} (hstack : g.stack = .ref a :: rest) (hdg : decode c.code g.pc = .ok (.checkcast index, 3)) :
    ∃ T', Stand p l e R s m args below meth c T' locs cells slots ∧ T'.heap = T.heap ∧ ∀ target, Steps p.tables e below (T'.setTop { g with pc := g.pc + 3, stack := .ref a :: rest }) target → Steps p.tables e below (T.setTop g) target := by
  obtain ⟨cB, h1, D, h2, h3, h4⟩ := hE
  have h1' : s.vm.findClass C = some cB := by rw [← X.warmed.alike.findClass]; exact h1
  obtain ⟨vm', X', st⟩ := X.checkcastYes hexec hown hlink h2 h4 h1' (by rw [h3]; exact Jvm.Free.SB.assignable_self _ _) hg hstack hdg
  exact ⟨_, X', rfl, fun t h => st t (by rw [← hstack] at h; exact h)⟩
namespace SEq
def yN : MethodName := ⟨"java/lang/String", "equals", "(Ljava/lang/Object;)Z"⟩
abbrev yB : ByteArray := jdk_42_method_66_code
theorem d0 : decode yB 0 = .ok (.aload_n 0, 1) := by decide +kernel
theorem d1 : decode yB 1 = .ok (.aload_n 1, 1) := by decide +kernel
theorem d2 : decode yB 2 = .ok (.if_acmp (.ne) 5, 3) := by decide +kernel
theorem d5 : decode yB 5 = .ok (.iconst 1, 1) := by decide +kernel
theorem d6 : decode yB 6 = .ok (.ireturn, 1) := by decide +kernel
theorem d7 : decode yB 7 = .ok (.aload_n 1, 1) := by decide +kernel
theorem d8 : decode yB 8 = .ok (.instanceof 10, 3) := by decide +kernel
theorem d11 : decode yB 11 = .ok (.ifCond (.eq) 43, 3) := by decide +kernel
theorem d14 : decode yB 14 = .ok (.aload_n 1, 1) := by decide +kernel
theorem d15 : decode yB 15 = .ok (.checkcast 10, 3) := by decide +kernel
theorem d18 : decode yB 18 = .ok (.astore_n 2, 1) := by decide +kernel
theorem d19 : decode yB 19 = .ok (.getstatic 38, 3) := by decide +kernel
theorem d22 : decode yB 22 = .ok (.ifCond (.eq) 14, 3) := by decide +kernel
theorem d25 : decode yB 25 = .ok (.aload_n 0, 1) := by decide +kernel
theorem d26 : decode yB 26 = .ok (.getfield 15, 3) := by decide +kernel
theorem d29 : decode yB 29 = .ok (.aload_n 2, 1) := by decide +kernel
theorem d30 : decode yB 30 = .ok (.getfield 15, 3) := by decide +kernel
theorem d33 : decode yB 33 = .ok (.if_icmp (.ne) 21, 3) := by decide +kernel
theorem d36 : decode yB 36 = .ok (.aload_n 0, 1) := by decide +kernel
theorem d37 : decode yB 37 = .ok (.getfield 9, 3) := by decide +kernel
theorem d40 : decode yB 40 = .ok (.aload_n 2, 1) := by decide +kernel
theorem d41 : decode yB 41 = .ok (.getfield 9, 3) := by decide +kernel
theorem d44 : decode yB 44 = .ok (.invokestatic 541, 3) := by decide +kernel
theorem d47 : decode yB 47 = .ok (.ifCond (.eq) 7, 3) := by decide +kernel
theorem d50 : decode yB 50 = .ok (.iconst 1, 1) := by decide +kernel
theorem d51 : decode yB 51 = .ok (.goto 4, 3) := by decide +kernel
theorem d54 : decode yB 54 = .ok (.iconst 0, 1) := by decide +kernel
theorem d55 : decode yB 55 = .ok (.ireturn, 1) := by decide +kernel
def site : List Cond := [.classLink "java/lang/String" 10 "java/lang/String", .fieldLink "java/lang/String" 38 "java/lang/String" "COMPACT_STRINGS" "Z", .fieldLink "java/lang/String" 15 "java/lang/String" "coder" "B", .fieldLink "java/lang/String" 9 "java/lang/String" "value" "[B", LEq.tab] ++ staticW "java/lang/String" 541 LEq.yN
def tab : Cond := tabOf yN yB 3 (some .boolean) site
def P (x t : Addr) (V : Cell) (cd : Int32) (n : Nat) (f : Nat → Int32) (y t' : Addr) (V' : Cell) (cd' : Int32) (k : Nat) (g : Nat → Int32) (z : Int32) (args : Array Value) (s : State) : Prop := args = #[.ref x, .ref y] ∧ Txt x t V cd n f s ∧ Txt y t' V' cd' k g s ∧ StaticIs s "java/lang/String" "COMPACT_STRINGS" "Z" (.int z) ∧ ¬ z = 0
/-- equals(Object) of two Strings: whether the texts are the same -/
theorem law (l : Launch) (x t : Addr) (V : Cell) (cd : Int32) (n : Nat) (f : Nat → Int32) (y t' : Addr) (V' : Cell) (cd' : Int32) (k : Nat) (g : Nat → Int32) (z : Int32) : Law l yN 2 1 1 14 yB 3 (some .boolean) site (P x t V cd n f y t' V' cd' k g z) (Says01 (SameT n f k g)) [] 0 0 := by
  refine Law.of_walk (plainFor_of_name (by decide +kernel)) (by decide +kernel) (by decide +kernel) (by decide) (fun _ _ h => by rw [h.1]; rfl) (fun _ U U' hal hh h => ⟨h.1, h.2.1.mv hal hh, h.2.2.1.mv hal hh, h.2.2.2.1.there hal hh, h.2.2.2.2⟩) (fun r U U' V V' h1 hal h2 h => Says01.mv r U U' V V' h1 hal h2 h) ?_
  intro p e s m args below meth c s₁ X0 hexec hbytes hml hret hlk hnm hown hh0 W hP
  obtain ⟨rfl, hx, hy, s1, hz⟩ := hP
  have c1 : Steps p.tables e below (s₁.setTop (entryFrame m #[.ref x, .ref y] 3)) (s₁.setTop (mkF m 2 #[.val (.ref x), .val (.ref y), .unset] [.ref y, .ref x])) := Steps.trans (entry rfl) (by
    show Steps p.tables e below (s₁.setTop (mkF m 0 #[.val (.ref x), .val (.ref y), .unset] [])) _
    refine XS.aloadN X0.here hexec rfl (hb hbytes d0) rfl rfl ?_
    refine XS.aloadN X0.here hexec rfl (hb hbytes d1) rfl rfl ?_
    exact Steps.refl _)
  by_cases hxy : x = y
  · have c2 : Steps p.tables e below (s₁.setTop (entryFrame m #[.ref x, .ref y] 3)) (s₁.setTop (mkF m 6 #[.val (.ref x), .val (.ref y), .unset] [.int 1])) := c1.trans (by
      refine acmpNo X0.here hexec rfl (hb hbytes d2) rfl rfl rfl (by simp [acmp, hxy]) ?_
      refine iconstV X0.here hexec rfl 1 (hb hbytes d5) (by decide) ?_
      exact Steps.refl _)
    subst hxy
    have ec : cd = cd' := by
      obtain ⟨D, fd, a1, a2, a3⟩ := hx.2.2.1
      obtain ⟨D', fd', b1, b2, b3⟩ := hy.2.2.1
      cases a1.symm.trans b1
      obtain ⟨q1, q2, q3, q4⟩ := a2.1
      obtain ⟨r1, r2, r3, r4⟩ := b2.1
      cases q4.symm.trans r4
      cases a3.symm.trans b3; rfl
    have et : t = t' := by
      obtain ⟨D, fd, a1, a2, a3⟩ := hx.2.1
      obtain ⟨D', fd', b1, b2, b3⟩ := hy.2.1
      cases a1.symm.trans b1
      obtain ⟨q1, q2, q3, q4⟩ := a2.1
      obtain ⟨r1, r2, r3, r4⟩ := b2.1
      cases q4.symm.trans r4
      cases a3.symm.trans b3; rfl
    subst ec et
    have ev : V = V' := by cases hx.2.2.2.1.1.symm.trans hy.2.2.2.1.1; rfl
    subst ev
    have hs : SameT n f k g := (Cod.eqv hx.2.2.2.2.1 hy.2.2.2.2.1 hx.2.2.2.2.2 hy.2.2.2.2.2).mp ⟨rfl, fun _ _ => rfl⟩
    exact ⟨s₁, some (.int 1), _, _, _, X0, rfl, rfl, rfl, (fun h => by cases h), ⟨1, rfl, hh0, Or.inl ⟨rfl, hs⟩⟩, fun fs hl => c2.trans (X0.ireturnOut hexec hret rfl (Or.inr (Or.inl rfl)) (hb hbytes d6) hl)⟩
  · have c2 : Steps p.tables e below (s₁.setTop (entryFrame m #[.ref x, .ref y] 3)) (s₁.setTop (mkF m 8 #[.val (.ref x), .val (.ref y), .unset] [.ref y])) := c1.trans (by
      refine acmpYes X0.here hexec rfl (pc0 := 2) rfl (hb hbytes d2) rfl rfl rfl (by simp [acmp, hxy]) (by decide) rfl ?_
      refine XS.aloadN X0.here hexec rfl (hb hbytes d7) rfl rfl ?_
      exact Steps.refl _)
    obtain ⟨T3, X3, q3, st3⟩ := cinst X0 hexec hown (wk W (.classLink "java/lang/String" 10 "java/lang/String")) (hy.mv X0.warmed.alike hh0).1 (g := (mkF m 8 #[.val (.ref x), .val (.ref y), .unset] [.ref y])) rfl (rest := []) rfl (hb hbytes d8)
    have hh3 := q3.trans hh0
    have c4 : Steps p.tables e below (s₁.setTop (entryFrame m #[.ref x, .ref y] 3)) (T3.setTop (mkF m 15 #[.val (.ref x), .val (.ref y), .unset] [.ref y])) := (c2.trans (st3 _ (Steps.refl _))).trans (by
      refine XS.ifNo X3.here hexec rfl (hb hbytes d11) rfl (i0_eq_f (by decide)) ?_
      refine XS.aloadN X3.here hexec rfl (hb hbytes d14) rfl rfl ?_
      exact Steps.refl _)
    obtain ⟨T5, X5, q5, st5⟩ := cself X3 hexec hown (wk W (.classLink "java/lang/String" 10 "java/lang/String")) (hy.mv X3.warmed.alike hh3).1 (g := (mkF m 15 #[.val (.ref x), .val (.ref y), .unset] [.ref y])) rfl (rest := []) rfl (hb hbytes d15)
    have hh5 := q5.trans hh3
    have c6 : Steps p.tables e below (s₁.setTop (entryFrame m #[.ref x, .ref y] 3)) (T5.setTop (mkF m 19 #[.val (.ref x), .val (.ref y), .val (.ref y)] [])) := (c4.trans (st5 _ (Steps.refl _))).trans (by
      refine XS.astoreN X5.here hexec rfl (hb hbytes d18) rfl rfl rfl ?_
      exact Steps.refl _)
    obtain ⟨T7, X7, q7, st7⟩ := X5.sget hexec hown (wk W (.fieldLink "java/lang/String" 38 "java/lang/String" "COMPACT_STRINGS" "Z")) s1 (fun _ _ h => by rw [hh5]; exact h) (g := (mkF m 19 #[.val (.ref x), .val (.ref y), .val (.ref y)] [])) rfl (hb hbytes d19)
    have hh7 := q7.trans hh5
    have c8 : Steps p.tables e below (s₁.setTop (entryFrame m #[.ref x, .ref y] 3)) (T7.setTop (mkF m 26 #[.val (.ref x), .val (.ref y), .val (.ref y)] [.ref x])) := (c6.trans (st7 _ (Steps.refl _))).trans (by
      refine XS.ifNo X7.here hexec rfl (hb hbytes d22) rfl (i0_eq_f hz) ?_
      refine XS.aloadN X7.here hexec rfl (hb hbytes d25) rfl rfl ?_
      exact Steps.refl _)
    obtain ⟨T9, X9, q9, st9⟩ := X7.hget hexec hown (wk W (.fieldLink "java/lang/String" 15 "java/lang/String" "coder" "B")) (hx.mv X7.warmed.alike hh7).2.2.1 (g := (mkF m 26 #[.val (.ref x), .val (.ref y), .val (.ref y)] [.ref x])) rfl (rest := []) rfl (hb hbytes d26)
    have hh9 := q9.trans hh7
    have c10 : Steps p.tables e below (s₁.setTop (entryFrame m #[.ref x, .ref y] 3)) (T9.setTop (mkF m 30 #[.val (.ref x), .val (.ref y), .val (.ref y)] [.ref y, .int cd])) := (c8.trans (st9 _ (Steps.refl _))).trans (by
      refine XS.aloadN X9.here hexec rfl (hb hbytes d29) rfl rfl ?_
      exact Steps.refl _)
    obtain ⟨T11, X11, q11, st11⟩ := X9.hget hexec hown (wk W (.fieldLink "java/lang/String" 15 "java/lang/String" "coder" "B")) (hy.mv X9.warmed.alike hh9).2.2.1 (g := (mkF m 30 #[.val (.ref x), .val (.ref y), .val (.ref y)] [.ref y, .int cd])) rfl (rest := [.int cd]) rfl (hb hbytes d30)
    have hh11 := q11.trans hh9
    have c12 : Steps p.tables e below (s₁.setTop (entryFrame m #[.ref x, .ref y] 3)) (T11.setTop (mkF m 33 #[.val (.ref x), .val (.ref y), .val (.ref y)] [.int cd', .int cd])) := c10.trans (st11 _ (Steps.refl _))
    by_cases hcd : cd = cd'
    · subst hcd
      have c13 : Steps p.tables e below (s₁.setTop (entryFrame m #[.ref x, .ref y] 3)) (T11.setTop (mkF m 37 #[.val (.ref x), .val (.ref y), .val (.ref y)] [.ref x])) := c12.trans (by
        refine XS.icmpNo X11.here hexec rfl (hb hbytes d33) rfl (ii_ne_f rfl) ?_
        refine XS.aloadN X11.here hexec rfl (hb hbytes d36) rfl rfl ?_
        exact Steps.refl _)
      obtain ⟨T14, X14, q14, st14⟩ := X11.hget hexec hown (wk W (.fieldLink "java/lang/String" 9 "java/lang/String" "value" "[B")) (hx.mv X11.warmed.alike hh11).2.1 (g := (mkF m 37 #[.val (.ref x), .val (.ref y), .val (.ref y)] [.ref x])) rfl (rest := []) rfl (hb hbytes d37)
      have hh14 := q14.trans hh11
      have c15 : Steps p.tables e below (s₁.setTop (entryFrame m #[.ref x, .ref y] 3)) (T14.setTop (mkF m 41 #[.val (.ref x), .val (.ref y), .val (.ref y)] [.ref y, .ref t])) := (c13.trans (st14 _ (Steps.refl _))).trans (by
        refine XS.aloadN X14.here hexec rfl (hb hbytes d40) rfl rfl ?_
        exact Steps.refl _)
      obtain ⟨T16, X16, q16, st16⟩ := X14.hget hexec hown (wk W (.fieldLink "java/lang/String" 9 "java/lang/String" "value" "[B")) (hy.mv X14.warmed.alike hh14).2.1 (g := (mkF m 41 #[.val (.ref x), .val (.ref y), .val (.ref y)] [.ref y, .ref t])) rfl (rest := [.ref t]) rfl (hb hbytes d41)
      have hh16 := q16.trans hh14
      have c17 : Steps p.tables e below (s₁.setTop (entryFrame m #[.ref x, .ref y] 3)) (T16.setTop (mkF m 44 #[.val (.ref x), .val (.ref y), .val (.ref y)] [.ref t', .ref t])) := c15.trans (st16 _ (Steps.refl _))
      obtain ⟨v18, T18, X18, E18, g18⟩ := X16.callS hexec (LEq.law l t V t' V') hown (wks W (staticW "java/lang/String" 541 LEq.yN)) (wk W LEq.tab) (W := 0) (Nat.le_of_ble_eq_true rfl) (Nat.le_of_ble_eq_true rfl) (Nat.le_refl _) (Nat.le_refl _) (g := (mkF m 44 #[.val (.ref x), .val (.ref y), .val (.ref y)] [.ref t', .ref t])) rfl (by rw [hml]; rfl) c17 (argsL := [.ref t, .ref t']) (rest := []) rfl rfl (by show 2 * 0 + 0 ≤ _; decide) (hb hbytes d44) (⟨rfl, hx.2.2.2.1.mv X16.warmed.alike hh16, hx.2.2.2.2.1.ty, hy.2.2.2.1.mv X16.warmed.alike hh16, hy.2.2.2.2.1.ty⟩)
      obtain ⟨v, rfl, q18, hv⟩ := E18
      have iff := Cod.eqv hx.2.2.2.2.1 hy.2.2.2.2.1 hx.2.2.2.2.2 hy.2.2.2.2.2
      rcases hv with ⟨rfl, he⟩ | ⟨rfl, he⟩
      · have c19 : Steps p.tables e below (s₁.setTop (entryFrame m #[.ref x, .ref y] 3)) (T18.setTop (mkF m 55 #[.val (.ref x), .val (.ref y), .val (.ref y)] [.int 1])) := Steps.trans g18 (by
          refine XS.ifNo X18.here hexec rfl (hb hbytes d47) rfl (i0_eq_f (by decide)) ?_
          refine iconstV X18.here hexec rfl 1 (hb hbytes d50) (by decide) ?_
          refine XS.goto X18.here hexec rfl (pc0 := 51) rfl (hb hbytes d51) (by decide) rfl ?_
          exact Steps.refl _)
        exact ⟨T18, some (.int 1), _, _, _, X18, rfl, rfl, rfl, (fun h => by cases h), ⟨1, rfl, q18.trans hh16, Or.inl ⟨rfl, iff.mp he⟩⟩, fun fs hl => c19.trans (X18.ireturnOut hexec hret rfl (Or.inr (Or.inl rfl)) (hb hbytes d55) hl)⟩
      · have c19 : Steps p.tables e below (s₁.setTop (entryFrame m #[.ref x, .ref y] 3)) (T18.setTop (mkF m 55 #[.val (.ref x), .val (.ref y), .val (.ref y)] [.int 0])) := Steps.trans g18 (by
          refine XS.ifYes X18.here hexec rfl (pc0 := 47) rfl (hb hbytes d47) rfl (i0_eq_t rfl) (by decide) rfl ?_
          refine iconstV X18.here hexec rfl 0 (hb hbytes d54) (by decide) ?_
          exact Steps.refl _)
        exact ⟨T18, some (.int 0), _, _, _, X18, rfl, rfl, rfl, (fun h => by cases h), ⟨0, rfl, q18.trans hh16, Or.inr ⟨rfl, fun q => he (iff.mpr q)⟩⟩, fun fs hl => c19.trans (X18.ireturnOut hexec hret rfl (Or.inr (Or.inl rfl)) (hb hbytes d55) hl)⟩
    · have c13 : Steps p.tables e below (s₁.setTop (entryFrame m #[.ref x, .ref y] 3)) (T11.setTop (mkF m 55 #[.val (.ref x), .val (.ref y), .val (.ref y)] [.int 0])) := c12.trans (by
        refine XS.icmpYes X11.here hexec rfl (pc0 := 33) rfl (hb hbytes d33) rfl (ii_ne_t hcd) (by decide) rfl ?_
        refine iconstV X11.here hexec rfl 0 (hb hbytes d54) (by decide) ?_
        exact Steps.refl _)
      exact ⟨T11, some (.int 0), _, _, _, X11, rfl, rfl, rfl, (fun h => by cases h), ⟨0, rfl, hh11, Or.inr ⟨rfl, Cod.dif hx.2.2.2.2.1 hy.2.2.2.2.1 hcd⟩⟩, fun fs hl => c13.trans (X11.ireturnOut hexec hret rfl (Or.inr (Or.inl rfl)) (hb hbytes d55) hl)⟩
theorem pays {l : Launch} {R : Room} {p : Program} {e : Env} {below : List Frame} {s : State} {sargs : Array Value} {len W : Nat} (x t : Addr) (V : Cell) (cd : Int32) (n : Nat) (f : Nat → Int32) (y t' : Addr) (V' : Cell) (cd' : Int32) (k : Nat) (g : Nat → Int32) (z : Int32) (htab : tab.before sargs s = true) (hfr : 2 ≤ R.frames) (hlo : W + 28 ≤ R.locals) :
    Back l R p e below s sargs yN len W (fun A₁ a₁ => A₁.cells + 0 ≤ R.cells ∧ A₁.slots + 0 ≤ R.slots ∧ P x t V cd n f y t' V' cd' k g z a₁ A₁.U) (fun A₁ _ v₁ B₁ => Says01 (SameT n f k g) v₁ A₁.U B₁.U ∧ B₁.locs = A₁.locs ++ [] ∧ B₁.cells = A₁.cells + 0 ∧ B₁.slots = A₁.slots + 0) :=
  (law l x t V cd n f y t' V' cd' k g z).pays htab hfr (by omega)
end SEq
end StrChars
namespace StrChars.Road
open Jvm Sem ClassFile Op Lib Jvm.Stand Jvm.Free Jvm.Free.XT
open Jvm.Lib.Cold (StaticIs)
/-- the words of String.equals(Object) -/
abbrev wordsEq : List Jvm.Cond := [.code SEq.yN SEq.yB 3 (some .boolean), .initialized ST, .classLink ST 10 ST, .fieldLink ST 38 ST "COMPACT_STRINGS" "Z", .fieldLink ST 15 ST "coder" "B", .fieldLink ST 9 ST "value" "[B", .methodLink ST 541 LEq.yN, .static LEq.yN, .code LEq.yN LEq.yB 3 (some .boolean), .initialized "java/lang/StringLatin1"]
theorem tabEq_of {a : Array Value} {s : State} (h : ∀ w ∈ wordsEq, w.before a s = true) : SEq.tab.before a s = true := by
  have hl : LEq.tab.before a s = true := unparts (wk h (.code LEq.yN LEq.yB 3 (some .boolean))) (wks h (.initialized LEq.yN.cls :: LEq.site))
  have q := consq hl h
  exact unparts (wk q (.code SEq.yN SEq.yB 3 (some .boolean))) (wks q (.initialized SEq.yN.cls :: SEq.site))
theorem movedEq {Z s : State} {a0 args : Array Value} (hZ : Z.Warmed39 s.vm) (hw : ∀ d ∈ wordsEq, d.before a0 Z = true) : ∀ d ∈ wordsEq, d.before args s = true := fun d hd => by
  have t : ∀ d ∈ wordsEq, (d.onTables && d.keepsFace) = true := by decide +kernel
  exact RoadKit.mv hZ (hw d hd) (t d hd)
/-- the road's facts of a String, as the laws ask it -/
theorem txt_of {Z U : State} {a0 : Array Value} {kI : Nat} (wi : (Jvm.Cond.instantiable ST kI).before a0 Z = true) (al : Z.vm.Alike U.vm) {x t : Addr} {kb : ClassId} {cs : List Int32} {cd N2 : Int32} {vs : List Value} (E : RoadKit.Exa Z U.heap x ST) (V : RoadKit.Fld Z U.heap x ST "value" "[B" (.ref t)) (C : RoadKit.Fld Z U.heap x ST "coder" "B" (.int cd)) (K : RoadKit.Arv Z U.heap t kb .byte N2 vs (.int 0)) (hc : CodA cs cd N2 vs) (hb : ∀ c ∈ cs, ¬ c < 0 ∧ ¬ (65535 : Int32) < c) (l2 : cs.length ≤ 4000) :
    ∃ A, Txt x t A cd cs.length (fun j => cs.getD j 0) U := by
  obtain ⟨A, K1, K2, K3, K4, K5, K6⟩ := K
  have hcod := hc.cod (by omega) K3 K5
  obtain ⟨D, fV, fC, hB, F1, F2, g1, g2, -, -⟩ := strObj wi al E V C
  exact ⟨A, ⟨_, hB.2.2.1, D, hB.1, rfl, by cases q : D.vm <;> first | rfl | exact absurd q (hB.2.1.2 _)⟩, Has.of hB F1 g1, Has.of hB F2 g2, ⟨K1.1, State.isArrayOf_alike al K1.2.1, K1.2.2, by rcases hcod with ⟨-, q, -⟩ | ⟨-, q, -⟩ <;> omega⟩, hcod, fun j hj => by
    have e : cs.getD j 0 = cs[j] := by simp [List.getD_eq_getElem?_getD, hj]
    show ¬ cs.getD j 0 < 0 ∧ ¬ 65535 < cs.getD j 0
    rw [e]; exact hb _ (List.getElem_mem _)⟩
theorem same_list (cs ds : List Int32) : SameT cs.length (fun j => cs.getD j 0) ds.length (fun j => ds.getD j 0) ↔ cs = ds := by
  constructor
  · rintro ⟨e, q⟩
    refine List.ext_getElem e fun j h1 h2 => ?_
    have := q j h1
    simpa [List.getD_eq_getElem?_getD, h1, h2] using this
  · rintro rfl
    exact ⟨rfl, fun _ _ => rfl⟩
/-- **equals(Object) OF TWO SUCH STRINGS**: 1 just where the chars are the same -/
theorem eqW {p : Program} {l : Launch} {e : Env} {R : Room} {s : State} {args : Array Value} {below : List Frame} {len W : Nat} {Z : State} {a0 : Array Value} {h : Heap} (hZ : Z.Warmed39 s.vm) (hw : ∀ d ∈ wordsEq, d.before a0 Z = true) {kI : Nat} (wi : (Jvm.Cond.instantiable ST kI).before a0 Z = true)
    {x t : Addr} {kb : ClassId} {cs : List Int32} {cd N2 : Int32} {vs : List Value} (E : RoadKit.Exa Z h x ST) (V : RoadKit.Fld Z h x ST "value" "[B" (.ref t)) (C : RoadKit.Fld Z h x ST "coder" "B" (.int cd)) (K : RoadKit.Arv Z h t kb .byte N2 vs (.int 0)) (hc : CodA cs cd N2 vs) (hb : ∀ c ∈ cs, ¬ c < 0 ∧ ¬ (65535 : Int32) < c) (l2 : cs.length ≤ 4000)
    {y t' : Addr} {kb' : ClassId} {ds : List Int32} {cd' N2' : Int32} {vs' : List Value} (E' : RoadKit.Exa Z h y ST) (V' : RoadKit.Fld Z h y ST "value" "[B" (.ref t')) (C' : RoadKit.Fld Z h y ST "coder" "B" (.int cd')) (K' : RoadKit.Arv Z h t' kb' .byte N2' vs' (.int 0)) (hc' : CodA ds cd' N2' vs') (hb' : ∀ c ∈ ds, ¬ c < 0 ∧ ¬ (65535 : Int32) < c) (l2' : ds.length ≤ 4000)
    {z : Int32} (S : RoadKit.Sta Z h ST "COMPACT_STRINGS" "Z" (.int z)) (hz : ¬ z = 0) (hfr : 2 ≤ R.frames) (hlo : W + 28 ≤ R.locals) :
    Back l R p e below s args (⟨"java/lang/String", "equals", "(Ljava/lang/Object;)Z"⟩ : MethodName) len W (fun P a => a = #[.ref x, .ref y] ∧ P.U.heap = h ∧ P.cells + 0 ≤ R.cells ∧ P.slots + 0 ≤ R.slots)
      (fun P _ v B => ∃ L, (((v = some (.int 1) ∧ cs = ds) ∨ (v = some (.int 0) ∧ ¬ cs = ds)) ∧ L = [] ∧ B.U.heap = h) ∧ B.locs = P.locs ++ L ∧ B.cells = P.cells + 0 ∧ B.slots = P.slots + 0) := by
  intro m meth c P g ig mk a X hg hsize hdg hW hn hp'
  obtain ⟨rfl, rfl, r1, r2⟩ := hp'
  have al : Z.vm.Alike P.U.vm := hZ.alike.trans X.warmed.alike
  obtain ⟨A, hx⟩ := txt_of wi al E V C K hc hb l2
  obtain ⟨A', hy⟩ := txt_of wi al E' V' C' K' hc' hb' l2'
  obtain ⟨v, B, X', ⟨⟨w, hv, hh, hq⟩, hl, hk, hs⟩, st⟩ := SEq.pays x t A cd cs.length (fun j => cs.getD j 0) y t' A' cd' ds.length (fun j => ds.getD j 0) z (tabEq_of (movedEq hZ hw)) hfr hlo m meth c P g ig mk _ X hg hsize hdg hW hn ⟨r1, r2, rfl, hx, hy, sta_is al S, hz⟩
  refine ⟨v, B, X', ⟨[], ⟨?_, rfl, hh⟩, hl, hk, hs⟩, st⟩
  rcases hq with ⟨rfl, q⟩ | ⟨rfl, q⟩
  · exact Or.inl ⟨hv, (same_list cs ds).mp q⟩
  · exact Or.inr ⟨hv, fun e => q ((same_list cs ds).mpr e)⟩
end StrChars.Road
namespace StrChars.Road
open Jvm Sem ClassFile Op Lib Jvm.Stand Jvm.Free Jvm.Free.XT
open Jvm.Lib.Cold (StaticIs)
/-- what backV says of its String, as the contracts of this text ask it: cs's low bytes, coder 0 -/
theorem codOf {cs : List Int32} {n : Nat} (hn : cs.length = n) (hb : ∀ c ∈ cs, ¬ 255 < c) : CodA cs 0 (Int32.ofNat n) ((cs.map lo8).map Value.int) := Or.inl ⟨rfl, by rw [hn], by simp [List.map_map, Function.comp_def], hb⟩
end StrChars.Road
end Jvm.Pilot.@@N@@
namespace Jvm.Pilot.@@N@@
open Jvm Jvm.ClassFile Sem Op Lib Jvm.Free Jvm.Stand Jvm.LawKit Jvm.RoadKit Bundle Jvm.Pilot.@@N@@.Jvm.D
section OwnKit
variable {p : Program} {l : Launch} {e : Env} {R : Room} {s : State} {m : MethodId} {args : Array Value} {below : List Frame} {meth : Method} {c : Code} {T : State} {locs : List Loc} {cells slots : Nat} {Z : State} {a0 : Array Value} {h : Heap} {Φ : Outcome → State → Prop}
def own_ushr (x y : Int32) : Int32 := (x.toUInt32 >>> (y &&& 31).toUInt32).toInt32
def own_ushrL (x : Int64) (y : Int32) : Int64 := (x.toUInt64 >>> (y &&& 0x3f).toInt64.toUInt64).toInt64
def own_Ends (p : Program) (e : Env) (below : List Frame) (Φ : Outcome → State → Prop) (t : State) : Prop := ∃ s₂ o, Steps p.tables e below t s₂ ∧ s₂.status = .running ∧ Ended s₂ below o ∧ Φ o s₂
theorem own_via {t t' : State} (k : ∀ u, Steps p.tables e below t' u → Steps p.tables e below t u) (h : own_Ends p e below Φ t') : own_Ends p e below Φ t := by
  obtain ⟨s₂, o, h1, h2⟩ := h; exact ⟨s₂, o, k _ h1, h2⟩
theorem own_thru {t t' : State} (k : Steps p.tables e below t t') (h : own_Ends p e below Φ t') : own_Ends p e below Φ t := own_via (fun _ q => k.trans q) h
def own_Post (s : State) (Q : Option Value → Heap → List Loc → Prop) (kc ks : Nat) (o : Outcome) (U : State) : Prop := ∃ v L, o = .returned v ∧ Q v U.heap L ∧ FrameEnd s o U L kc ks
def own_Met (l : Launch) (y : MethodName) (bytes : ByteArray) (maxL : Nat) (ret : Option FieldType) (rm : Room) (Z : State) (as' : Array Value) (h0 : Heap) (Q : Option Value → Heap → List Loc → Prop) : Prop :=
  ∀ ws : List Jvm.Cond, MetFree l y (head1 (Jvm.Cond.code y bytes maxL ret :: ws) rm) (fun a U => a = as' ∧ Z.Warmed39 U.vm ∧ U.heap = h0) (fun _ _ _ _ _ => True) (fun _ U o U' => ∃ v L, o = .returned v ∧ Q v U'.heap L ∧ FrameEnd U o U' L rm.cells rm.slots)
theorem own_met {y : MethodName} {bytes : ByteArray} {maxL : Nat} {ret : Option FieldType} {rm : Room} {as' : Array Value} {h0 : Heap} {Q : Option Value → Heap → List Loc → Prop} (hp : plainFor y = true)
    (body : ∀ (p : Program) (e : Env) (s : State) (m : MethodId) (below : List Frame) (meth : Method) (c : Code) (T : State), p.tables.exec = Jvm.exec → c.code = bytes → c.maxLocals = maxL → Z.Warmed39 s.vm → s.vm.findClass y.cls = some m.cls → meth.name = y.name → meth.sig.returnType = ret → meth.locks = false →
      Stand p l e rm s m as' below meth c T [] 0 0 → T.heap = h0 → s.heap = h0 → own_Ends p e below (own_Post s Q rm.cells rm.slots) (T.setTop (entryFrame m as' maxL))) : own_Met l y bytes maxL ret rm Z as' h0 Q := by
  intro ws
  refine MetFree.of_bodySF hp hisR ?_
  intro p e s m args below meth c s₁ Bd hml0 hP hK
  obtain ⟨rfl, hZ, hh⟩ := hP
  exact body p e s m below meth c s₁ Bd.exec Bd.bytes hml0 hZ (findClass_of_methodNamed Bd.named) (name_of_methodNamed Bd.named Bd.method).1 Bd.returns (BodyLoose.notSynchronized Bd) (Stand.of_body Bd) (by rw [← hh, Bd.state]; rfl) hh
theorem own_oz {n0 : Nat} (O : Old Z n0 h) : n0 ≤ h.size := O.1 ▸ O.2.1
theorem own_entry {g g' : JFrame} (q : g = g') (h : own_Ends p e below Φ (T.setTop g')) : own_Ends p e below Φ (T.setTop g) := q ▸ h
theorem own_iloadN (X : Stand p l e R s m args below meth c T locs cells slots) (hx : p.tables.exec = Jvm.exec) {pc pc' : Nat} {Ls : Array Slot} {rest : List Value} {k : Fin 4} {v : Int32} (hd : decode c.code pc = .ok (.iload_n k, 1)) (hl : Ls[k.val]? = some (.val (.int v))) (hp : pc + 1 = pc') (h : own_Ends p e below Φ (T.setTop (mkF m pc' Ls (.int v :: rest)))) : own_Ends p e below Φ (T.setTop (mkF m pc Ls (rest))) := by
  subst hp; exact own_via (fun _ k => XS.iloadN X.here hx (g := mkF m pc Ls (rest)) rfl hd hl k) h
theorem own_lloadN (X : Stand p l e R s m args below meth c T locs cells slots) (hx : p.tables.exec = Jvm.exec) {pc pc' : Nat} {Ls : Array Slot} {rest : List Value} {k : Fin 4} {v : Int64} (hd : decode c.code pc = .ok (.lload_n k, 1)) (hl : Ls[k.val]? = some (.val (.long v))) (hp : pc + 1 = pc') (h : own_Ends p e below Φ (T.setTop (mkF m pc' Ls (.long v :: rest)))) : own_Ends p e below Φ (T.setTop (mkF m pc Ls (rest))) := by
  subst hp; exact own_via (fun _ k => XS.lloadN X.here hx (g := mkF m pc Ls (rest)) rfl hd hl k) h
theorem own_aloadN (X : Stand p l e R s m args below meth c T locs cells slots) (hx : p.tables.exec = Jvm.exec) {pc pc' : Nat} {Ls : Array Slot} {rest : List Value} {k : Fin 4} {v : Value} (hd : decode c.code pc = .ok (.aload_n k, 1)) (hl : Ls[k.val]? = some (.val v)) (hv : v.isRef = true) (hp : pc + 1 = pc') (h : own_Ends p e below Φ (T.setTop (mkF m pc' Ls (v :: rest)))) : own_Ends p e below Φ (T.setTop (mkF m pc Ls (rest))) := by
  subst hp; exact own_via (fun _ k => XS.aloadN X.here hx (g := mkF m pc Ls (rest)) rfl hd hl hv k) h
theorem own_istoreN (X : Stand p l e R s m args below meth c T locs cells slots) (hx : p.tables.exec = Jvm.exec) {pc pc' : Nat} {Ls : Array Slot} {rest : List Value} {k : Fin 4} {v : Int32} (Ls' : Array Slot) (hd : decode c.code pc = .ok (.istore_n k, 1)) (hl : storeLocals Ls k.val (.int v) = some Ls') (hp : pc + 1 = pc') (h : own_Ends p e below Φ (T.setTop (mkF m pc' Ls' (rest)))) : own_Ends p e below Φ (T.setTop (mkF m pc Ls (.int v :: rest))) := by
  subst hp; exact own_via (fun _ k => XS.istoreN X.here hx (g := mkF m pc Ls (.int v :: rest)) rfl hd rfl hl k) h
theorem own_lstoreN (X : Stand p l e R s m args below meth c T locs cells slots) (hx : p.tables.exec = Jvm.exec) {pc pc' : Nat} {Ls : Array Slot} {rest : List Value} {k : Fin 4} {v : Int64} (Ls' : Array Slot) (hd : decode c.code pc = .ok (.lstore_n k, 1)) (hl : storeLocals Ls k.val (.long v) = some Ls') (hp : pc + 1 = pc') (h : own_Ends p e below Φ (T.setTop (mkF m pc' Ls' (rest)))) : own_Ends p e below Φ (T.setTop (mkF m pc Ls (.long v :: rest))) := by
  subst hp; exact own_via (fun _ k => XS.lstoreN X.here hx (g := mkF m pc Ls (.long v :: rest)) rfl hd rfl hl k) h
theorem own_astoreN (X : Stand p l e R s m args below meth c T locs cells slots) (hx : p.tables.exec = Jvm.exec) {pc pc' : Nat} {Ls : Array Slot} {rest : List Value} {k : Fin 4} {v : Value} (Ls' : Array Slot) (hd : decode c.code pc = .ok (.astore_n k, 1)) (hv : v.isRef = true) (hl : storeLocals Ls k.val v = some Ls') (hp : pc + 1 = pc') (h : own_Ends p e below Φ (T.setTop (mkF m pc' Ls' (rest)))) : own_Ends p e below Φ (T.setTop (mkF m pc Ls (v :: rest))) := by
  subst hp; exact own_via (fun _ k => XS.astoreN X.here hx (g := mkF m pc Ls (v :: rest)) rfl hd rfl hv hl k) h
theorem own_iload (X : Stand p l e R s m args below meth c T locs cells slots) (hx : p.tables.exec = Jvm.exec) {pc pc' : Nat} {Ls : Array Slot} {rest : List Value} {k : Nat} {v : Int32} (hd : decode c.code pc = .ok (.iload k, 2)) (hl : Ls[k]? = some (.val (.int v))) (hp : pc + 2 = pc') (h : own_Ends p e below Φ (T.setTop (mkF m pc' Ls (.int v :: rest)))) : own_Ends p e below Φ (T.setTop (mkF m pc Ls (rest))) := by
  subst hp; exact own_via (fun _ k => XS.iload X.here hx (g := mkF m pc Ls (rest)) rfl hd hl k) h
theorem own_lload (X : Stand p l e R s m args below meth c T locs cells slots) (hx : p.tables.exec = Jvm.exec) {pc pc' : Nat} {Ls : Array Slot} {rest : List Value} {k : Nat} {v : Int64} (hd : decode c.code pc = .ok (.lload k, 2)) (hl : Ls[k]? = some (.val (.long v))) (hp : pc + 2 = pc') (h : own_Ends p e below Φ (T.setTop (mkF m pc' Ls (.long v :: rest)))) : own_Ends p e below Φ (T.setTop (mkF m pc Ls (rest))) := by
  subst hp; exact own_via (fun _ k => XS.lload X.here hx (g := mkF m pc Ls (rest)) rfl hd hl k) h
theorem own_aload (X : Stand p l e R s m args below meth c T locs cells slots) (hx : p.tables.exec = Jvm.exec) {pc pc' : Nat} {Ls : Array Slot} {rest : List Value} {k : Nat} {v : Value} (hd : decode c.code pc = .ok (.aload k, 2)) (hl : Ls[k]? = some (.val v)) (hv : v.isRef = true) (hp : pc + 2 = pc') (h : own_Ends p e below Φ (T.setTop (mkF m pc' Ls (v :: rest)))) : own_Ends p e below Φ (T.setTop (mkF m pc Ls (rest))) := by
  subst hp; exact own_via (fun _ k => XS.aload X.here hx (g := mkF m pc Ls (rest)) rfl hd hl hv k) h
theorem own_istore (X : Stand p l e R s m args below meth c T locs cells slots) (hx : p.tables.exec = Jvm.exec) {pc pc' : Nat} {Ls : Array Slot} {rest : List Value} {k : Nat} {v : Int32} (Ls' : Array Slot) (hd : decode c.code pc = .ok (.istore k, 2)) (hl : storeLocals Ls k (.int v) = some Ls') (hp : pc + 2 = pc') (h : own_Ends p e below Φ (T.setTop (mkF m pc' Ls' (rest)))) : own_Ends p e below Φ (T.setTop (mkF m pc Ls (.int v :: rest))) := by
  subst hp; exact own_via (fun _ k => XS.istore X.here hx (g := mkF m pc Ls (.int v :: rest)) rfl hd rfl hl k) h
theorem own_lstore (X : Stand p l e R s m args below meth c T locs cells slots) (hx : p.tables.exec = Jvm.exec) {pc pc' : Nat} {Ls : Array Slot} {rest : List Value} {k : Nat} {v : Int64} (Ls' : Array Slot) (hd : decode c.code pc = .ok (.lstore k, 2)) (hl : storeLocals Ls k (.long v) = some Ls') (hp : pc + 2 = pc') (h : own_Ends p e below Φ (T.setTop (mkF m pc' Ls' (rest)))) : own_Ends p e below Φ (T.setTop (mkF m pc Ls (.long v :: rest))) := by
  subst hp; exact own_via (fun _ k => XS.lstore X.here hx (g := mkF m pc Ls (.long v :: rest)) rfl hd rfl hl k) h
theorem own_astore (X : Stand p l e R s m args below meth c T locs cells slots) (hx : p.tables.exec = Jvm.exec) {pc pc' : Nat} {Ls : Array Slot} {rest : List Value} {k : Nat} {v : Value} (Ls' : Array Slot) (hd : decode c.code pc = .ok (.astore k, 2)) (hv : v.isRef = true) (hl : storeLocals Ls k v = some Ls') (hp : pc + 2 = pc') (h : own_Ends p e below Φ (T.setTop (mkF m pc' Ls' (rest)))) : own_Ends p e below Φ (T.setTop (mkF m pc Ls (v :: rest))) := by
  subst hp; exact own_via (fun _ k => XS.astore X.here hx (g := mkF m pc Ls (v :: rest)) rfl hd rfl hv hl k) h
theorem own_iconst (X : Stand p l e R s m args below meth c T locs cells slots) (hx : p.tables.exec = Jvm.exec) {pc pc' : Nat} {Ls : Array Slot} {rest : List Value} {i : Int} (v : Int32) (hd : decode c.code pc = .ok (.iconst i, 1)) (hv : Int32.ofInt i = v) (hp : pc + 1 = pc') (h : own_Ends p e below Φ (T.setTop (mkF m pc' Ls (.int v :: rest)))) : own_Ends p e below Φ (T.setTop (mkF m pc Ls rest)) := by
  subst hp hv; exact own_via (fun _ k => XS.iconst X.here hx (g := mkF m pc Ls rest) rfl hd k) h
theorem own_bipush (X : Stand p l e R s m args below meth c T locs cells slots) (hx : p.tables.exec = Jvm.exec) {pc pc' : Nat} {Ls : Array Slot} {rest : List Value} {i : Int} (v : Int32) (hd : decode c.code pc = .ok (.bipush i, 2)) (hv : (Int8.ofInt i).toInt32 = v) (hp : pc + 2 = pc') (h : own_Ends p e below Φ (T.setTop (mkF m pc' Ls (.int v :: rest)))) : own_Ends p e below Φ (T.setTop (mkF m pc Ls rest)) := by
  subst hp hv; exact own_via (fun _ k => XS.bipush X.here hx (g := mkF m pc Ls rest) rfl hd k) h
theorem own_sipush (X : Stand p l e R s m args below meth c T locs cells slots) (hx : p.tables.exec = Jvm.exec) {pc pc' : Nat} {Ls : Array Slot} {rest : List Value} {i : Int} (v : Int32) (hd : decode c.code pc = .ok (.sipush i, 3)) (hv : (Int16.ofInt i).toInt32 = v) (hp : pc + 3 = pc') (h : own_Ends p e below Φ (T.setTop (mkF m pc' Ls (.int v :: rest)))) : own_Ends p e below Φ (T.setTop (mkF m pc Ls rest)) := by
  subst hp hv; exact own_via (fun _ k => XS.sipush X.here hx (g := mkF m pc Ls rest) rfl hd k) h
theorem own_lconst (X : Stand p l e R s m args below meth c T locs cells slots) (hx : p.tables.exec = Jvm.exec) {pc pc' : Nat} {Ls : Array Slot} {rest : List Value} {i : Fin 2} (v : Int64) (hd : decode c.code pc = .ok (.lconst i, 1)) (hv : Int64.ofNat i = v) (hp : pc + 1 = pc') (h : own_Ends p e below Φ (T.setTop (mkF m pc' Ls (.long v :: rest)))) : own_Ends p e below Φ (T.setTop (mkF m pc Ls rest)) := by
  subst hp hv; exact own_via (fun _ k => XS.lconst X.here hx (g := mkF m pc Ls rest) rfl hd k) h
theorem own_aconst_null (X : Stand p l e R s m args below meth c T locs cells slots) (hx : p.tables.exec = Jvm.exec) {pc pc' : Nat} {Ls : Array Slot} {rest : List Value}  (hd : decode c.code pc = .ok (.aconst_null, 1))  (hp : pc + 1 = pc') (h : own_Ends p e below Φ (T.setTop (mkF m pc' Ls (.null :: rest)))) : own_Ends p e below Φ (T.setTop (mkF m pc Ls (rest))) := by
  subst hp; exact own_via (fun _ k => XS.aconstNull X.here hx (g := mkF m pc Ls (rest)) rfl hd  k) h
theorem own_iadd (X : Stand p l e R s m args below meth c T locs cells slots) (hx : p.tables.exec = Jvm.exec) {pc pc' : Nat} {Ls : Array Slot} {rest : List Value} {x y : Int32} (hd : decode c.code pc = .ok (.iadd, 1))  (hp : pc + 1 = pc') (h : own_Ends p e below Φ (T.setTop (mkF m pc' Ls (.int (x + y) :: rest)))) : own_Ends p e below Φ (T.setTop (mkF m pc Ls (.int y :: .int x :: rest))) := by
  subst hp; exact own_via (fun _ k => XS.iadd X.here hx (g := mkF m pc Ls (.int y :: .int x :: rest)) rfl hd rfl k) h
theorem own_isub (X : Stand p l e R s m args below meth c T locs cells slots) (hx : p.tables.exec = Jvm.exec) {pc pc' : Nat} {Ls : Array Slot} {rest : List Value} {x y : Int32} (hd : decode c.code pc = .ok (.isub, 1))  (hp : pc + 1 = pc') (h : own_Ends p e below Φ (T.setTop (mkF m pc' Ls (.int (x - y) :: rest)))) : own_Ends p e below Φ (T.setTop (mkF m pc Ls (.int y :: .int x :: rest))) := by
  subst hp; exact own_via (fun _ k => XS.isub X.here hx (g := mkF m pc Ls (.int y :: .int x :: rest)) rfl hd rfl k) h
theorem own_imul (X : Stand p l e R s m args below meth c T locs cells slots) (hx : p.tables.exec = Jvm.exec) {pc pc' : Nat} {Ls : Array Slot} {rest : List Value} {x y : Int32} (hd : decode c.code pc = .ok (.imul, 1))  (hp : pc + 1 = pc') (h : own_Ends p e below Φ (T.setTop (mkF m pc' Ls (.int (x * y) :: rest)))) : own_Ends p e below Φ (T.setTop (mkF m pc Ls (.int y :: .int x :: rest))) := by
  subst hp; exact own_via (fun _ k => XS.imul X.here hx (g := mkF m pc Ls (.int y :: .int x :: rest)) rfl hd rfl k) h
theorem own_iand (X : Stand p l e R s m args below meth c T locs cells slots) (hx : p.tables.exec = Jvm.exec) {pc pc' : Nat} {Ls : Array Slot} {rest : List Value} {x y : Int32} (hd : decode c.code pc = .ok (.iand, 1))  (hp : pc + 1 = pc') (h : own_Ends p e below Φ (T.setTop (mkF m pc' Ls (.int (x &&& y) :: rest)))) : own_Ends p e below Φ (T.setTop (mkF m pc Ls (.int y :: .int x :: rest))) := by
  subst hp; exact own_via (fun _ k => XS.iand X.here hx (g := mkF m pc Ls (.int y :: .int x :: rest)) rfl hd rfl k) h
theorem own_ior (X : Stand p l e R s m args below meth c T locs cells slots) (hx : p.tables.exec = Jvm.exec) {pc pc' : Nat} {Ls : Array Slot} {rest : List Value} {x y : Int32} (hd : decode c.code pc = .ok (.ior, 1))  (hp : pc + 1 = pc') (h : own_Ends p e below Φ (T.setTop (mkF m pc' Ls (.int (x ||| y) :: rest)))) : own_Ends p e below Φ (T.setTop (mkF m pc Ls (.int y :: .int x :: rest))) := by
  subst hp; exact own_via (fun _ k => XS.ior X.here hx (g := mkF m pc Ls (.int y :: .int x :: rest)) rfl hd rfl k) h
theorem own_ixor (X : Stand p l e R s m args below meth c T locs cells slots) (hx : p.tables.exec = Jvm.exec) {pc pc' : Nat} {Ls : Array Slot} {rest : List Value} {x y : Int32} (hd : decode c.code pc = .ok (.ixor, 1))  (hp : pc + 1 = pc') (h : own_Ends p e below Φ (T.setTop (mkF m pc' Ls (.int (x ^^^ y) :: rest)))) : own_Ends p e below Φ (T.setTop (mkF m pc Ls (.int y :: .int x :: rest))) := by
  subst hp; exact own_via (fun _ k => XS.ixor X.here hx (g := mkF m pc Ls (.int y :: .int x :: rest)) rfl hd rfl k) h
theorem own_ishl (X : Stand p l e R s m args below meth c T locs cells slots) (hx : p.tables.exec = Jvm.exec) {pc pc' : Nat} {Ls : Array Slot} {rest : List Value} {x y : Int32} (hd : decode c.code pc = .ok (.ishl, 1))  (hp : pc + 1 = pc') (h : own_Ends p e below Φ (T.setTop (mkF m pc' Ls (.int (x <<< (y &&& 31)) :: rest)))) : own_Ends p e below Φ (T.setTop (mkF m pc Ls (.int y :: .int x :: rest))) := by
  subst hp; exact own_via (fun _ k => XS.ishl X.here hx (g := mkF m pc Ls (.int y :: .int x :: rest)) rfl hd rfl k) h
theorem own_ishr (X : Stand p l e R s m args below meth c T locs cells slots) (hx : p.tables.exec = Jvm.exec) {pc pc' : Nat} {Ls : Array Slot} {rest : List Value} {x y : Int32} (hd : decode c.code pc = .ok (.ishr, 1))  (hp : pc + 1 = pc') (h : own_Ends p e below Φ (T.setTop (mkF m pc' Ls (.int (x >>> (y &&& 31)) :: rest)))) : own_Ends p e below Φ (T.setTop (mkF m pc Ls (.int y :: .int x :: rest))) := by
  subst hp; exact own_via (fun _ k => XS.ishr X.here hx (g := mkF m pc Ls (.int y :: .int x :: rest)) rfl hd rfl k) h
theorem own_iushr (X : Stand p l e R s m args below meth c T locs cells slots) (hx : p.tables.exec = Jvm.exec) {pc pc' : Nat} {Ls : Array Slot} {rest : List Value} {x y : Int32} (hd : decode c.code pc = .ok (.iushr, 1))  (hp : pc + 1 = pc') (h : own_Ends p e below Φ (T.setTop (mkF m pc' Ls (.int (own_ushr x y) :: rest)))) : own_Ends p e below Φ (T.setTop (mkF m pc Ls (.int y :: .int x :: rest))) := by
  subst hp; exact own_via (fun _ k => XS.iushr X.here hx (g := mkF m pc Ls (.int y :: .int x :: rest)) rfl hd rfl k) h
theorem own_ladd (X : Stand p l e R s m args below meth c T locs cells slots) (hx : p.tables.exec = Jvm.exec) {pc pc' : Nat} {Ls : Array Slot} {rest : List Value} {x y : Int64} (hd : decode c.code pc = .ok (.ladd, 1))  (hp : pc + 1 = pc') (h : own_Ends p e below Φ (T.setTop (mkF m pc' Ls (.long (x + y) :: rest)))) : own_Ends p e below Φ (T.setTop (mkF m pc Ls (.long y :: .long x :: rest))) := by
  subst hp; exact own_via (fun _ k => XS.ladd X.here hx (g := mkF m pc Ls (.long y :: .long x :: rest)) rfl hd rfl k) h
theorem own_lsub (X : Stand p l e R s m args below meth c T locs cells slots) (hx : p.tables.exec = Jvm.exec) {pc pc' : Nat} {Ls : Array Slot} {rest : List Value} {x y : Int64} (hd : decode c.code pc = .ok (.lsub, 1))  (hp : pc + 1 = pc') (h : own_Ends p e below Φ (T.setTop (mkF m pc' Ls (.long (x - y) :: rest)))) : own_Ends p e below Φ (T.setTop (mkF m pc Ls (.long y :: .long x :: rest))) := by
  subst hp; exact own_via (fun _ k => XS.lsub X.here hx (g := mkF m pc Ls (.long y :: .long x :: rest)) rfl hd rfl k) h
theorem own_lmul (X : Stand p l e R s m args below meth c T locs cells slots) (hx : p.tables.exec = Jvm.exec) {pc pc' : Nat} {Ls : Array Slot} {rest : List Value} {x y : Int64} (hd : decode c.code pc = .ok (.lmul, 1))  (hp : pc + 1 = pc') (h : own_Ends p e below Φ (T.setTop (mkF m pc' Ls (.long (x * y) :: rest)))) : own_Ends p e below Φ (T.setTop (mkF m pc Ls (.long y :: .long x :: rest))) := by
  subst hp; exact own_via (fun _ k => XS.lmul X.here hx (g := mkF m pc Ls (.long y :: .long x :: rest)) rfl hd rfl k) h
theorem own_land (X : Stand p l e R s m args below meth c T locs cells slots) (hx : p.tables.exec = Jvm.exec) {pc pc' : Nat} {Ls : Array Slot} {rest : List Value} {x y : Int64} (hd : decode c.code pc = .ok (.land, 1))  (hp : pc + 1 = pc') (h : own_Ends p e below Φ (T.setTop (mkF m pc' Ls (.long (x &&& y) :: rest)))) : own_Ends p e below Φ (T.setTop (mkF m pc Ls (.long y :: .long x :: rest))) := by
  subst hp; exact own_via (fun _ k => XS.land X.here hx (g := mkF m pc Ls (.long y :: .long x :: rest)) rfl hd rfl k) h
theorem own_lor (X : Stand p l e R s m args below meth c T locs cells slots) (hx : p.tables.exec = Jvm.exec) {pc pc' : Nat} {Ls : Array Slot} {rest : List Value} {x y : Int64} (hd : decode c.code pc = .ok (.lor, 1))  (hp : pc + 1 = pc') (h : own_Ends p e below Φ (T.setTop (mkF m pc' Ls (.long (x ||| y) :: rest)))) : own_Ends p e below Φ (T.setTop (mkF m pc Ls (.long y :: .long x :: rest))) := by
  subst hp; exact own_via (fun _ k => XS.lor X.here hx (g := mkF m pc Ls (.long y :: .long x :: rest)) rfl hd rfl k) h
theorem own_lxor (X : Stand p l e R s m args below meth c T locs cells slots) (hx : p.tables.exec = Jvm.exec) {pc pc' : Nat} {Ls : Array Slot} {rest : List Value} {x y : Int64} (hd : decode c.code pc = .ok (.lxor, 1))  (hp : pc + 1 = pc') (h : own_Ends p e below Φ (T.setTop (mkF m pc' Ls (.long (x ^^^ y) :: rest)))) : own_Ends p e below Φ (T.setTop (mkF m pc Ls (.long y :: .long x :: rest))) := by
  subst hp; exact own_via (fun _ k => XS.lxor X.here hx (g := mkF m pc Ls (.long y :: .long x :: rest)) rfl hd rfl k) h
theorem own_lshl (X : Stand p l e R s m args below meth c T locs cells slots) (hx : p.tables.exec = Jvm.exec) {pc pc' : Nat} {Ls : Array Slot} {rest : List Value} {x : Int64} {y : Int32} (hd : decode c.code pc = .ok (.lshl, 1))  (hp : pc + 1 = pc') (h : own_Ends p e below Φ (T.setTop (mkF m pc' Ls (.long (x <<< (y &&& 0x3f).toInt64) :: rest)))) : own_Ends p e below Φ (T.setTop (mkF m pc Ls (.int y :: .long x :: rest))) := by
  subst hp; exact own_via (fun _ k => XS.lshl X.here hx (g := mkF m pc Ls (.int y :: .long x :: rest)) rfl hd rfl k) h
theorem own_lshr (X : Stand p l e R s m args below meth c T locs cells slots) (hx : p.tables.exec = Jvm.exec) {pc pc' : Nat} {Ls : Array Slot} {rest : List Value} {x : Int64} {y : Int32} (hd : decode c.code pc = .ok (.lshr, 1))  (hp : pc + 1 = pc') (h : own_Ends p e below Φ (T.setTop (mkF m pc' Ls (.long (x >>> (y &&& 0x3f).toInt64) :: rest)))) : own_Ends p e below Φ (T.setTop (mkF m pc Ls (.int y :: .long x :: rest))) := by
  subst hp; exact own_via (fun _ k => XS.lshr X.here hx (g := mkF m pc Ls (.int y :: .long x :: rest)) rfl hd rfl k) h
theorem own_lushr (X : Stand p l e R s m args below meth c T locs cells slots) (hx : p.tables.exec = Jvm.exec) {pc pc' : Nat} {Ls : Array Slot} {rest : List Value} {x : Int64} {y : Int32} (hd : decode c.code pc = .ok (.lushr, 1))  (hp : pc + 1 = pc') (h : own_Ends p e below Φ (T.setTop (mkF m pc' Ls (.long (own_ushrL x y) :: rest)))) : own_Ends p e below Φ (T.setTop (mkF m pc Ls (.int y :: .long x :: rest))) := by
  subst hp; exact own_via (fun _ k => XS.lushr X.here hx (g := mkF m pc Ls (.int y :: .long x :: rest)) rfl hd rfl k) h
theorem own_idiv (X : Stand p l e R s m args below meth c T locs cells slots) (hx : p.tables.exec = Jvm.exec) {pc pc' : Nat} {Ls : Array Slot} {rest : List Value} {x y : Int32} (hd : decode c.code pc = .ok (.idiv, 1)) (hy : y ≠ 0) (hp : pc + 1 = pc') (h : own_Ends p e below Φ (T.setTop (mkF m pc' Ls (.int (x / y) :: rest)))) : own_Ends p e below Φ (T.setTop (mkF m pc Ls (.int y :: .int x :: rest))) := by
  subst hp; exact own_via (fun _ k => XS.idiv X.here hx (g := mkF m pc Ls (.int y :: .int x :: rest)) rfl hd rfl hy k) h
theorem own_irem (X : Stand p l e R s m args below meth c T locs cells slots) (hx : p.tables.exec = Jvm.exec) {pc pc' : Nat} {Ls : Array Slot} {rest : List Value} {x y : Int32} (hd : decode c.code pc = .ok (.irem, 1)) (hy : y ≠ 0) (hp : pc + 1 = pc') (h : own_Ends p e below Φ (T.setTop (mkF m pc' Ls (.int (x % y) :: rest)))) : own_Ends p e below Φ (T.setTop (mkF m pc Ls (.int y :: .int x :: rest))) := by
  subst hp; exact own_via (fun _ k => iremM X hx (g := mkF m pc Ls (.int y :: .int x :: rest)) rfl hd rfl hy k) h
theorem own_ineg (X : Stand p l e R s m args below meth c T locs cells slots) (hx : p.tables.exec = Jvm.exec) {pc pc' : Nat} {Ls : Array Slot} {rest : List Value} {x : Int32} (hd : decode c.code pc = .ok (.ineg, 1))  (hp : pc + 1 = pc') (h : own_Ends p e below Φ (T.setTop (mkF m pc' Ls (.int (-x) :: rest)))) : own_Ends p e below Φ (T.setTop (mkF m pc Ls (.int x :: rest))) := by
  subst hp; exact own_via (fun _ k => XS.ineg X.here hx (g := mkF m pc Ls (.int x :: rest)) rfl hd rfl k) h
theorem own_lneg (X : Stand p l e R s m args below meth c T locs cells slots) (hx : p.tables.exec = Jvm.exec) {pc pc' : Nat} {Ls : Array Slot} {rest : List Value} {x : Int64} (hd : decode c.code pc = .ok (.lneg, 1))  (hp : pc + 1 = pc') (h : own_Ends p e below Φ (T.setTop (mkF m pc' Ls (.long (-x) :: rest)))) : own_Ends p e below Φ (T.setTop (mkF m pc Ls (.long x :: rest))) := by
  subst hp; exact own_via (fun _ k => XS.lneg X.here hx (g := mkF m pc Ls (.long x :: rest)) rfl hd rfl k) h
theorem own_i2l (X : Stand p l e R s m args below meth c T locs cells slots) (hx : p.tables.exec = Jvm.exec) {pc pc' : Nat} {Ls : Array Slot} {rest : List Value} {x : Int32} (hd : decode c.code pc = .ok (.i2l, 1))  (hp : pc + 1 = pc') (h : own_Ends p e below Φ (T.setTop (mkF m pc' Ls (.long (x.toInt64) :: rest)))) : own_Ends p e below Φ (T.setTop (mkF m pc Ls (.int x :: rest))) := by
  subst hp; exact own_via (fun _ k => XS.i2l X.here hx (g := mkF m pc Ls (.int x :: rest)) rfl hd rfl k) h
theorem own_l2i (X : Stand p l e R s m args below meth c T locs cells slots) (hx : p.tables.exec = Jvm.exec) {pc pc' : Nat} {Ls : Array Slot} {rest : List Value} {x : Int64} (hd : decode c.code pc = .ok (.l2i, 1))  (hp : pc + 1 = pc') (h : own_Ends p e below Φ (T.setTop (mkF m pc' Ls (.int (x.toInt32) :: rest)))) : own_Ends p e below Φ (T.setTop (mkF m pc Ls (.long x :: rest))) := by
  subst hp; exact own_via (fun _ k => XS.l2i X.here hx (g := mkF m pc Ls (.long x :: rest)) rfl hd rfl k) h
theorem own_i2b (X : Stand p l e R s m args below meth c T locs cells slots) (hx : p.tables.exec = Jvm.exec) {pc pc' : Nat} {Ls : Array Slot} {rest : List Value} {x : Int32} (hd : decode c.code pc = .ok (.i2b, 1))  (hp : pc + 1 = pc') (h : own_Ends p e below Φ (T.setTop (mkF m pc' Ls (.int (x.toInt8.toInt32) :: rest)))) : own_Ends p e below Φ (T.setTop (mkF m pc Ls (.int x :: rest))) := by
  subst hp; exact own_via (fun _ k => XS.i2b X.here hx (g := mkF m pc Ls (.int x :: rest)) rfl hd rfl k) h
theorem own_i2c (X : Stand p l e R s m args below meth c T locs cells slots) (hx : p.tables.exec = Jvm.exec) {pc pc' : Nat} {Ls : Array Slot} {rest : List Value} {x : Int32} (hd : decode c.code pc = .ok (.i2c, 1))  (hp : pc + 1 = pc') (h : own_Ends p e below Φ (T.setTop (mkF m pc' Ls (.int (x.toUInt32.toUInt16.toUInt32.toInt32) :: rest)))) : own_Ends p e below Φ (T.setTop (mkF m pc Ls (.int x :: rest))) := by
  subst hp; exact own_via (fun _ k => XS.i2c X.here hx (g := mkF m pc Ls (.int x :: rest)) rfl hd rfl k) h
theorem own_i2s (X : Stand p l e R s m args below meth c T locs cells slots) (hx : p.tables.exec = Jvm.exec) {pc pc' : Nat} {Ls : Array Slot} {rest : List Value} {x : Int32} (hd : decode c.code pc = .ok (.i2s, 1))  (hp : pc + 1 = pc') (h : own_Ends p e below Φ (T.setTop (mkF m pc' Ls (.int (x.toInt16.toInt32) :: rest)))) : own_Ends p e below Φ (T.setTop (mkF m pc Ls (.int x :: rest))) := by
  subst hp; exact own_via (fun _ k => XS.i2s X.here hx (g := mkF m pc Ls (.int x :: rest)) rfl hd rfl k) h
theorem own_lcmp (X : Stand p l e R s m args below meth c T locs cells slots) (hx : p.tables.exec = Jvm.exec) {pc pc' : Nat} {Ls : Array Slot} {rest : List Value} {x y : Int64} (hd : decode c.code pc = .ok (.lcmp, 1))  (hp : pc + 1 = pc') (h : own_Ends p e below Φ (T.setTop (mkF m pc' Ls (.int (lcmpW x y) :: rest)))) : own_Ends p e below Φ (T.setTop (mkF m pc Ls (.long y :: .long x :: rest))) := by
  subst hp; exact own_via (fun _ k => XS.lcmp X.here hx (g := mkF m pc Ls (.long y :: .long x :: rest)) rfl hd rfl k) h
theorem own_dup (X : Stand p l e R s m args below meth c T locs cells slots) (hx : p.tables.exec = Jvm.exec) {pc pc' : Nat} {Ls : Array Slot} {rest : List Value} {x : Value} (hd : decode c.code pc = .ok (.dup, 1)) (hc : x.category = 1) (hp : pc + 1 = pc') (h : own_Ends p e below Φ (T.setTop (mkF m pc' Ls (x :: x :: rest)))) : own_Ends p e below Φ (T.setTop (mkF m pc Ls (x :: rest))) := by
  subst hp; exact own_via (fun _ k => XS.dup X.here hx (g := mkF m pc Ls (x :: rest)) rfl hd rfl hc k) h
theorem own_pop (X : Stand p l e R s m args below meth c T locs cells slots) (hx : p.tables.exec = Jvm.exec) {pc pc' : Nat} {Ls : Array Slot} {rest : List Value} {x : Value} (hd : decode c.code pc = .ok (.pop, 1)) (hc : x.category = 1) (hp : pc + 1 = pc') (h : own_Ends p e below Φ (T.setTop (mkF m pc' Ls (rest)))) : own_Ends p e below Φ (T.setTop (mkF m pc Ls (x :: rest))) := by
  subst hp; exact own_via (fun _ k => XS.pop X.here hx (g := mkF m pc Ls (x :: rest)) rfl hd rfl hc k) h
theorem own_dup_x1 (X : Stand p l e R s m args below meth c T locs cells slots) (hx : p.tables.exec = Jvm.exec) {pc pc' : Nat} {Ls : Array Slot} {rest : List Value} {x y : Value} (hd : decode c.code pc = .ok (.dup_x1, 1)) (hc : x.category = 1) (hc' : y.category = 1) (hp : pc + 1 = pc') (h : own_Ends p e below Φ (T.setTop (mkF m pc' Ls (x :: y :: x :: rest)))) : own_Ends p e below Φ (T.setTop (mkF m pc Ls (x :: y :: rest))) := by
  subst hp; exact own_via (fun _ k => XS.dupX1 X.here hx (g := mkF m pc Ls (x :: y :: rest)) rfl hd rfl hc hc' k) h
theorem own_iinc (X : Stand p l e R s m args below meth c T locs cells slots) (hx : p.tables.exec = Jvm.exec) {pc pc' : Nat} {Ls : Array Slot} {rest : List Value} {k : Nat} {cst : Int} {x : Int32} (Ls' : Array Slot) (hd : decode c.code pc = .ok (.iinc k cst, 3)) (hl : Ls[k]? = some (.val (.int x))) (hl' : storeLocals Ls k (.int (x + Int32.ofInt cst)) = some Ls') (hp : pc + 3 = pc') (h : own_Ends p e below Φ (T.setTop (mkF m pc' Ls' rest))) : own_Ends p e below Φ (T.setTop (mkF m pc Ls rest)) := by
  subst hp; exact own_via (fun _ k => XS.iinc X.here hx (g := mkF m pc Ls rest) rfl hd hl hl' k) h
theorem own_goto (X : Stand p l e R s m args below meth c T locs cells slots) (hx : p.tables.exec = Jvm.exec) {pc pc' : Nat} {Ls : Array Slot} {rest : List Value} {o : Int} (hd : decode c.code pc = .ok (.goto o, 3)) (ho : 0 ≤ (pc : Int) + o) (hp : ((pc : Int) + o).toNat = pc') (h : own_Ends p e below Φ (T.setTop (mkF m pc' Ls rest))) : own_Ends p e below Φ (T.setTop (mkF m pc Ls rest)) := own_via (fun _ k => XS.goto X.here hx (g := mkF m pc Ls rest) rfl (pc0 := pc) (pc' := pc') rfl hd ho hp k) h
theorem own_icmp_eq (X : Stand p l e R s m args below meth c T locs cells slots) (hx : p.tables.exec = Jvm.exec) {pc pcT pcF : Nat} {Ls : Array Slot} {rest : List Value} {x y : Int32} {o : Int} (hd : decode c.code pc = .ok (.if_icmp .eq o, 3)) (ho : 0 ≤ (pc : Int) + o) (hT : ((pc : Int) + o).toNat = pcT) (hF : pc + 3 = pcF) (kT : x = y → own_Ends p e below Φ (T.setTop (mkF m pcT Ls rest))) (kF : ¬ x = y → own_Ends p e below Φ (T.setTop (mkF m pcF Ls rest))) : own_Ends p e below Φ (T.setTop (mkF m pc Ls (.int y :: .int x :: rest))) := by
  subst hF; by_cases q : x = y
  · exact own_via (fun _ k => XS.icmpYes X.here hx (g := mkF m pc Ls (.int y :: .int x :: rest)) rfl (pc0 := pc) (pc' := pcT) rfl hd rfl (teq q).1 ho hT k) (kT q)
  · exact own_via (fun _ k => XS.icmpNo X.here hx (g := mkF m pc Ls (.int y :: .int x :: rest)) rfl hd rfl (feq q).1 k) (kF q)
theorem own_if_eq (X : Stand p l e R s m args below meth c T locs cells slots) (hx : p.tables.exec = Jvm.exec) {pc pcT pcF : Nat} {Ls : Array Slot} {rest : List Value} {x : Int32} {o : Int} (hd : decode c.code pc = .ok (.ifCond .eq o, 3)) (ho : 0 ≤ (pc : Int) + o) (hT : ((pc : Int) + o).toNat = pcT) (hF : pc + 3 = pcF) (kT : x = (0 : Int32) → own_Ends p e below Φ (T.setTop (mkF m pcT Ls rest))) (kF : ¬ x = (0 : Int32) → own_Ends p e below Φ (T.setTop (mkF m pcF Ls rest))) : own_Ends p e below Φ (T.setTop (mkF m pc Ls (.int x :: rest))) := by
  subst hF; by_cases q : x = (0 : Int32)
  · exact own_via (fun _ k => XS.ifYes X.here hx (g := mkF m pc Ls (.int x :: rest)) rfl (pc0 := pc) (pc' := pcT) rfl hd rfl ((if0 _ _).trans (teq q).1) ho hT k) (kT q)
  · exact own_via (fun _ k => XS.ifNo X.here hx (g := mkF m pc Ls (.int x :: rest)) rfl hd rfl ((if0 _ _).trans (feq q).1) k) (kF q)
theorem own_icmp_ne (X : Stand p l e R s m args below meth c T locs cells slots) (hx : p.tables.exec = Jvm.exec) {pc pcT pcF : Nat} {Ls : Array Slot} {rest : List Value} {x y : Int32} {o : Int} (hd : decode c.code pc = .ok (.if_icmp .ne o, 3)) (ho : 0 ≤ (pc : Int) + o) (hT : ((pc : Int) + o).toNat = pcT) (hF : pc + 3 = pcF) (kT : ¬ x = y → own_Ends p e below Φ (T.setTop (mkF m pcT Ls rest))) (kF : x = y → own_Ends p e below Φ (T.setTop (mkF m pcF Ls rest))) : own_Ends p e below Φ (T.setTop (mkF m pc Ls (.int y :: .int x :: rest))) := by
  subst hF; by_cases q : x = y
  · exact own_via (fun _ k => XS.icmpNo X.here hx (g := mkF m pc Ls (.int y :: .int x :: rest)) rfl hd rfl (teq q).2 k) (kF q)
  · exact own_via (fun _ k => XS.icmpYes X.here hx (g := mkF m pc Ls (.int y :: .int x :: rest)) rfl (pc0 := pc) (pc' := pcT) rfl hd rfl (feq q).2 ho hT k) (kT q)
theorem own_if_ne (X : Stand p l e R s m args below meth c T locs cells slots) (hx : p.tables.exec = Jvm.exec) {pc pcT pcF : Nat} {Ls : Array Slot} {rest : List Value} {x : Int32} {o : Int} (hd : decode c.code pc = .ok (.ifCond .ne o, 3)) (ho : 0 ≤ (pc : Int) + o) (hT : ((pc : Int) + o).toNat = pcT) (hF : pc + 3 = pcF) (kT : ¬ x = (0 : Int32) → own_Ends p e below Φ (T.setTop (mkF m pcT Ls rest))) (kF : x = (0 : Int32) → own_Ends p e below Φ (T.setTop (mkF m pcF Ls rest))) : own_Ends p e below Φ (T.setTop (mkF m pc Ls (.int x :: rest))) := by
  subst hF; by_cases q : x = (0 : Int32)
  · exact own_via (fun _ k => XS.ifNo X.here hx (g := mkF m pc Ls (.int x :: rest)) rfl hd rfl ((if0 _ _).trans (teq q).2) k) (kF q)
  · exact own_via (fun _ k => XS.ifYes X.here hx (g := mkF m pc Ls (.int x :: rest)) rfl (pc0 := pc) (pc' := pcT) rfl hd rfl ((if0 _ _).trans (feq q).2) ho hT k) (kT q)
theorem own_icmp_lt (X : Stand p l e R s m args below meth c T locs cells slots) (hx : p.tables.exec = Jvm.exec) {pc pcT pcF : Nat} {Ls : Array Slot} {rest : List Value} {x y : Int32} {o : Int} (hd : decode c.code pc = .ok (.if_icmp .lt o, 3)) (ho : 0 ≤ (pc : Int) + o) (hT : ((pc : Int) + o).toNat = pcT) (hF : pc + 3 = pcF) (kT : x < y → own_Ends p e below Φ (T.setTop (mkF m pcT Ls rest))) (kF : ¬ x < y → own_Ends p e below Φ (T.setTop (mkF m pcF Ls rest))) : own_Ends p e below Φ (T.setTop (mkF m pc Ls (.int y :: .int x :: rest))) := by
  subst hF; by_cases q : x < y
  · exact own_via (fun _ k => XS.icmpYes X.here hx (g := mkF m pc Ls (.int y :: .int x :: rest)) rfl (pc0 := pc) (pc' := pcT) rfl hd rfl (tlt q).1 ho hT k) (kT q)
  · exact own_via (fun _ k => XS.icmpNo X.here hx (g := mkF m pc Ls (.int y :: .int x :: rest)) rfl hd rfl (flt q).1 k) (kF q)
theorem own_if_lt (X : Stand p l e R s m args below meth c T locs cells slots) (hx : p.tables.exec = Jvm.exec) {pc pcT pcF : Nat} {Ls : Array Slot} {rest : List Value} {x : Int32} {o : Int} (hd : decode c.code pc = .ok (.ifCond .lt o, 3)) (ho : 0 ≤ (pc : Int) + o) (hT : ((pc : Int) + o).toNat = pcT) (hF : pc + 3 = pcF) (kT : x < (0 : Int32) → own_Ends p e below Φ (T.setTop (mkF m pcT Ls rest))) (kF : ¬ x < (0 : Int32) → own_Ends p e below Φ (T.setTop (mkF m pcF Ls rest))) : own_Ends p e below Φ (T.setTop (mkF m pc Ls (.int x :: rest))) := by
  subst hF; by_cases q : x < (0 : Int32)
  · exact own_via (fun _ k => XS.ifYes X.here hx (g := mkF m pc Ls (.int x :: rest)) rfl (pc0 := pc) (pc' := pcT) rfl hd rfl ((if0 _ _).trans (tlt q).1) ho hT k) (kT q)
  · exact own_via (fun _ k => XS.ifNo X.here hx (g := mkF m pc Ls (.int x :: rest)) rfl hd rfl ((if0 _ _).trans (flt q).1) k) (kF q)
theorem own_icmp_ge (X : Stand p l e R s m args below meth c T locs cells slots) (hx : p.tables.exec = Jvm.exec) {pc pcT pcF : Nat} {Ls : Array Slot} {rest : List Value} {x y : Int32} {o : Int} (hd : decode c.code pc = .ok (.if_icmp .ge o, 3)) (ho : 0 ≤ (pc : Int) + o) (hT : ((pc : Int) + o).toNat = pcT) (hF : pc + 3 = pcF) (kT : ¬ x < y → own_Ends p e below Φ (T.setTop (mkF m pcT Ls rest))) (kF : x < y → own_Ends p e below Φ (T.setTop (mkF m pcF Ls rest))) : own_Ends p e below Φ (T.setTop (mkF m pc Ls (.int y :: .int x :: rest))) := by
  subst hF; by_cases q : x < y
  · exact own_via (fun _ k => XS.icmpNo X.here hx (g := mkF m pc Ls (.int y :: .int x :: rest)) rfl hd rfl (tlt q).2.1 k) (kF q)
  · exact own_via (fun _ k => XS.icmpYes X.here hx (g := mkF m pc Ls (.int y :: .int x :: rest)) rfl (pc0 := pc) (pc' := pcT) rfl hd rfl (flt q).2.1 ho hT k) (kT q)
theorem own_if_ge (X : Stand p l e R s m args below meth c T locs cells slots) (hx : p.tables.exec = Jvm.exec) {pc pcT pcF : Nat} {Ls : Array Slot} {rest : List Value} {x : Int32} {o : Int} (hd : decode c.code pc = .ok (.ifCond .ge o, 3)) (ho : 0 ≤ (pc : Int) + o) (hT : ((pc : Int) + o).toNat = pcT) (hF : pc + 3 = pcF) (kT : ¬ x < (0 : Int32) → own_Ends p e below Φ (T.setTop (mkF m pcT Ls rest))) (kF : x < (0 : Int32) → own_Ends p e below Φ (T.setTop (mkF m pcF Ls rest))) : own_Ends p e below Φ (T.setTop (mkF m pc Ls (.int x :: rest))) := by
  subst hF; by_cases q : x < (0 : Int32)
  · exact own_via (fun _ k => XS.ifNo X.here hx (g := mkF m pc Ls (.int x :: rest)) rfl hd rfl ((if0 _ _).trans (tlt q).2.1) k) (kF q)
  · exact own_via (fun _ k => XS.ifYes X.here hx (g := mkF m pc Ls (.int x :: rest)) rfl (pc0 := pc) (pc' := pcT) rfl hd rfl ((if0 _ _).trans (flt q).2.1) ho hT k) (kT q)
theorem own_icmp_gt (X : Stand p l e R s m args below meth c T locs cells slots) (hx : p.tables.exec = Jvm.exec) {pc pcT pcF : Nat} {Ls : Array Slot} {rest : List Value} {x y : Int32} {o : Int} (hd : decode c.code pc = .ok (.if_icmp .gt o, 3)) (ho : 0 ≤ (pc : Int) + o) (hT : ((pc : Int) + o).toNat = pcT) (hF : pc + 3 = pcF) (kT : y < x → own_Ends p e below Φ (T.setTop (mkF m pcT Ls rest))) (kF : ¬ y < x → own_Ends p e below Φ (T.setTop (mkF m pcF Ls rest))) : own_Ends p e below Φ (T.setTop (mkF m pc Ls (.int y :: .int x :: rest))) := by
  subst hF; by_cases q : y < x
  · exact own_via (fun _ k => XS.icmpYes X.here hx (g := mkF m pc Ls (.int y :: .int x :: rest)) rfl (pc0 := pc) (pc' := pcT) rfl hd rfl (tlt q).2.2.1 ho hT k) (kT q)
  · exact own_via (fun _ k => XS.icmpNo X.here hx (g := mkF m pc Ls (.int y :: .int x :: rest)) rfl hd rfl (flt q).2.2.1 k) (kF q)
theorem own_if_gt (X : Stand p l e R s m args below meth c T locs cells slots) (hx : p.tables.exec = Jvm.exec) {pc pcT pcF : Nat} {Ls : Array Slot} {rest : List Value} {x : Int32} {o : Int} (hd : decode c.code pc = .ok (.ifCond .gt o, 3)) (ho : 0 ≤ (pc : Int) + o) (hT : ((pc : Int) + o).toNat = pcT) (hF : pc + 3 = pcF) (kT : (0 : Int32) < x → own_Ends p e below Φ (T.setTop (mkF m pcT Ls rest))) (kF : ¬ (0 : Int32) < x → own_Ends p e below Φ (T.setTop (mkF m pcF Ls rest))) : own_Ends p e below Φ (T.setTop (mkF m pc Ls (.int x :: rest))) := by
  subst hF; by_cases q : (0 : Int32) < x
  · exact own_via (fun _ k => XS.ifYes X.here hx (g := mkF m pc Ls (.int x :: rest)) rfl (pc0 := pc) (pc' := pcT) rfl hd rfl ((if0 _ _).trans (tlt q).2.2.1) ho hT k) (kT q)
  · exact own_via (fun _ k => XS.ifNo X.here hx (g := mkF m pc Ls (.int x :: rest)) rfl hd rfl ((if0 _ _).trans (flt q).2.2.1) k) (kF q)
theorem own_icmp_le (X : Stand p l e R s m args below meth c T locs cells slots) (hx : p.tables.exec = Jvm.exec) {pc pcT pcF : Nat} {Ls : Array Slot} {rest : List Value} {x y : Int32} {o : Int} (hd : decode c.code pc = .ok (.if_icmp .le o, 3)) (ho : 0 ≤ (pc : Int) + o) (hT : ((pc : Int) + o).toNat = pcT) (hF : pc + 3 = pcF) (kT : ¬ y < x → own_Ends p e below Φ (T.setTop (mkF m pcT Ls rest))) (kF : y < x → own_Ends p e below Φ (T.setTop (mkF m pcF Ls rest))) : own_Ends p e below Φ (T.setTop (mkF m pc Ls (.int y :: .int x :: rest))) := by
  subst hF; by_cases q : y < x
  · exact own_via (fun _ k => XS.icmpNo X.here hx (g := mkF m pc Ls (.int y :: .int x :: rest)) rfl hd rfl (tlt q).2.2.2 k) (kF q)
  · exact own_via (fun _ k => XS.icmpYes X.here hx (g := mkF m pc Ls (.int y :: .int x :: rest)) rfl (pc0 := pc) (pc' := pcT) rfl hd rfl (flt q).2.2.2 ho hT k) (kT q)
theorem own_if_le (X : Stand p l e R s m args below meth c T locs cells slots) (hx : p.tables.exec = Jvm.exec) {pc pcT pcF : Nat} {Ls : Array Slot} {rest : List Value} {x : Int32} {o : Int} (hd : decode c.code pc = .ok (.ifCond .le o, 3)) (ho : 0 ≤ (pc : Int) + o) (hT : ((pc : Int) + o).toNat = pcT) (hF : pc + 3 = pcF) (kT : ¬ (0 : Int32) < x → own_Ends p e below Φ (T.setTop (mkF m pcT Ls rest))) (kF : (0 : Int32) < x → own_Ends p e below Φ (T.setTop (mkF m pcF Ls rest))) : own_Ends p e below Φ (T.setTop (mkF m pc Ls (.int x :: rest))) := by
  subst hF; by_cases q : (0 : Int32) < x
  · exact own_via (fun _ k => XS.ifNo X.here hx (g := mkF m pc Ls (.int x :: rest)) rfl hd rfl ((if0 _ _).trans (tlt q).2.2.2) k) (kF q)
  · exact own_via (fun _ k => XS.ifYes X.here hx (g := mkF m pc Ls (.int x :: rest)) rfl (pc0 := pc) (pc' := pcT) rfl hd rfl ((if0 _ _).trans (flt q).2.2.2) ho hT k) (kT q)
theorem own_icmpT (X : Stand p l e R s m args below meth c T locs cells slots) (hx : p.tables.exec = Jvm.exec) {pc pcT : Nat} {Ls : Array Slot} {rest : List Value} {x y : Int32} {cd : ClassFile.Cond} {o : Int} (hd : decode c.code pc = .ok (.if_icmp cd o, 3)) (ho : 0 ≤ (pc : Int) + o) (hT : ((pc : Int) + o).toNat = pcT) (q : if_icmp.holds cd x y = true) (h : own_Ends p e below Φ (T.setTop (mkF m pcT Ls rest))) : own_Ends p e below Φ (T.setTop (mkF m pc Ls (.int y :: .int x :: rest))) :=
  own_via (fun _ k => XS.icmpYes X.here hx (g := mkF m pc Ls (.int y :: .int x :: rest)) rfl (pc0 := pc) (pc' := pcT) rfl hd rfl q ho hT k) h
theorem own_icmpF (X : Stand p l e R s m args below meth c T locs cells slots) (hx : p.tables.exec = Jvm.exec) {pc pcF : Nat} {Ls : Array Slot} {rest : List Value} {x y : Int32} {cd : ClassFile.Cond} {o : Int} (hd : decode c.code pc = .ok (.if_icmp cd o, 3)) (hF : pc + 3 = pcF) (q : if_icmp.holds cd x y = false) (h : own_Ends p e below Φ (T.setTop (mkF m pcF Ls rest))) : own_Ends p e below Φ (T.setTop (mkF m pc Ls (.int y :: .int x :: rest))) := by
  subst hF; exact own_via (fun _ k => XS.icmpNo X.here hx (g := mkF m pc Ls (.int y :: .int x :: rest)) rfl hd rfl q k) h
theorem own_ifT (X : Stand p l e R s m args below meth c T locs cells slots) (hx : p.tables.exec = Jvm.exec) {pc pcT : Nat} {Ls : Array Slot} {rest : List Value} {x : Int32} {cd : ClassFile.Cond} {o : Int} (hd : decode c.code pc = .ok (.ifCond cd o, 3)) (ho : 0 ≤ (pc : Int) + o) (hT : ((pc : Int) + o).toNat = pcT) (q : if_icmp.holds cd x 0 = true) (h : own_Ends p e below Φ (T.setTop (mkF m pcT Ls rest))) : own_Ends p e below Φ (T.setTop (mkF m pc Ls (.int x :: rest))) :=
  own_via (fun _ k => XS.ifYes X.here hx (g := mkF m pc Ls (.int x :: rest)) rfl (pc0 := pc) (pc' := pcT) rfl hd rfl ((if0 _ _).trans q) ho hT k) h
theorem own_ifF (X : Stand p l e R s m args below meth c T locs cells slots) (hx : p.tables.exec = Jvm.exec) {pc pcF : Nat} {Ls : Array Slot} {rest : List Value} {x : Int32} {cd : ClassFile.Cond} {o : Int} (hd : decode c.code pc = .ok (.ifCond cd o, 3)) (hF : pc + 3 = pcF) (q : if_icmp.holds cd x 0 = false) (h : own_Ends p e below Φ (T.setTop (mkF m pcF Ls rest))) : own_Ends p e below Φ (T.setTop (mkF m pc Ls (.int x :: rest))) := by
  subst hF; exact own_via (fun _ k => XS.ifNo X.here hx (g := mkF m pc Ls (.int x :: rest)) rfl hd rfl ((if0 _ _).trans q) k) h
theorem own_ifnullT (X : Stand p l e R s m args below meth c T locs cells slots) (hx : p.tables.exec = Jvm.exec) {pc pcT : Nat} {Ls : Array Slot} {rest : List Value} {o : Int} (hd : decode c.code pc = .ok (.ifnull o, 3)) (ho : 0 ≤ (pc : Int) + o) (hT : ((pc : Int) + o).toNat = pcT) (h : own_Ends p e below Φ (T.setTop (mkF m pcT Ls rest))) : own_Ends p e below Φ (T.setTop (mkF m pc Ls (.null :: rest))) :=
  own_via (fun _ k => XS.ifnullYes X.here hx (g := mkF m pc Ls (.null :: rest)) rfl (pc0 := pc) (pc' := pcT) rfl hd rfl ho hT k) h
theorem own_ifnullF (X : Stand p l e R s m args below meth c T locs cells slots) (hx : p.tables.exec = Jvm.exec) {pc pcF : Nat} {Ls : Array Slot} {rest : List Value} {b : Addr} {o : Int} (hd : decode c.code pc = .ok (.ifnull o, 3)) (hF : pc + 3 = pcF) (h : own_Ends p e below Φ (T.setTop (mkF m pcF Ls rest))) : own_Ends p e below Φ (T.setTop (mkF m pc Ls (.ref b :: rest))) := by
  subst hF; exact own_via (fun _ k => XS.ifnullNo X.here hx (g := mkF m pc Ls (.ref b :: rest)) rfl hd rfl k) h
theorem own_ifnonnullT (X : Stand p l e R s m args below meth c T locs cells slots) (hx : p.tables.exec = Jvm.exec) {pc pcT : Nat} {Ls : Array Slot} {rest : List Value} {b : Addr} {o : Int} (hd : decode c.code pc = .ok (.ifnonnull o, 3)) (ho : 0 ≤ (pc : Int) + o) (hT : ((pc : Int) + o).toNat = pcT) (h : own_Ends p e below Φ (T.setTop (mkF m pcT Ls rest))) : own_Ends p e below Φ (T.setTop (mkF m pc Ls (.ref b :: rest))) :=
  own_via (fun _ k => XS.ifnonnullYes X.here hx (g := mkF m pc Ls (.ref b :: rest)) rfl (pc0 := pc) (pc' := pcT) rfl hd rfl ho hT k) h
theorem own_ifnonnullF (X : Stand p l e R s m args below meth c T locs cells slots) (hx : p.tables.exec = Jvm.exec) {pc pcF : Nat} {Ls : Array Slot} {rest : List Value} {o : Int} (hd : decode c.code pc = .ok (.ifnonnull o, 3)) (hF : pc + 3 = pcF) (h : own_Ends p e below Φ (T.setTop (mkF m pcF Ls rest))) : own_Ends p e below Φ (T.setTop (mkF m pc Ls (.null :: rest))) := by
  subst hF; exact own_via (fun _ k => XS.ifnonnullNo X.here hx (g := mkF m pc Ls (.null :: rest)) rfl hd rfl k) h
theorem own_acmp (X : Stand p l e R s m args below meth c T locs cells slots) (hx : p.tables.exec = Jvm.exec) {pc pcT pcF : Nat} {Ls : Array Slot} {rest : List Value} {x y : Value} {cd : ClassFile.ACond} {o : Int} (hd : decode c.code pc = .ok (.if_acmp cd o, 3)) (h1 : x.isRef = true) (h2 : y.isRef = true) (ho : 0 ≤ (pc : Int) + o) (hT : ((pc : Int) + o).toNat = pcT) (hF : pc + 3 = pcF)
    (kT : acV cd (decide (x = y)) = true → own_Ends p e below Φ (T.setTop (mkF m pcT Ls rest))) (kF : acV cd (decide (x = y)) = false → own_Ends p e below Φ (T.setTop (mkF m pcF Ls rest))) : own_Ends p e below Φ (T.setTop (mkF m pc Ls (y :: x :: rest))) := by
  subst hF hT
  rcases q : acV cd (decide (x = y)) with _ | _
  · exact own_via (fun _ k => Jvm.RoadKit.acmp (g := mkF m pc Ls (y :: x :: rest)) X hx rfl h1 h2 (pc0 := pc) (pc' := pc + 3) rfl hd rfl rfl ho (by rw [q]; rfl) k) (kF q)
  · exact own_via (fun _ k => Jvm.RoadKit.acmp (g := mkF m pc Ls (y :: x :: rest)) X hx rfl h1 h2 (pc0 := pc) (pc' := ((pc : Int) + o).toNat) rfl hd rfl rfl ho (by rw [q]; rfl) k) (kT q)
theorem own_acmp_eq (X : Stand p l e R s m args below meth c T locs cells slots) (hx : p.tables.exec = Jvm.exec) {pc pcT pcF : Nat} {Ls : Array Slot} {rest : List Value} {x y : Addr} {o : Int} (hd : decode c.code pc = .ok (.if_acmp .eq o, 3)) (ho : 0 ≤ (pc : Int) + o) (hT : ((pc : Int) + o).toNat = pcT) (hF : pc + 3 = pcF)
    (kT : x = y → own_Ends p e below Φ (T.setTop (mkF m pcT Ls rest))) (kF : ¬ x = y → own_Ends p e below Φ (T.setTop (mkF m pcF Ls rest))) : own_Ends p e below Φ (T.setTop (mkF m pc Ls (.ref y :: .ref x :: rest))) :=
  own_acmp X hx hd rfl rfl ho hT hF (fun q => kT (by simpa [acV] using q)) (fun q => kF (by simpa [acV] using q))
theorem own_acmp_ne (X : Stand p l e R s m args below meth c T locs cells slots) (hx : p.tables.exec = Jvm.exec) {pc pcT pcF : Nat} {Ls : Array Slot} {rest : List Value} {x y : Addr} {o : Int} (hd : decode c.code pc = .ok (.if_acmp .ne o, 3)) (ho : 0 ≤ (pc : Int) + o) (hT : ((pc : Int) + o).toNat = pcT) (hF : pc + 3 = pcF)
    (kT : ¬ x = y → own_Ends p e below Φ (T.setTop (mkF m pcT Ls rest))) (kF : x = y → own_Ends p e below Φ (T.setTop (mkF m pcF Ls rest))) : own_Ends p e below Φ (T.setTop (mkF m pc Ls (.ref y :: .ref x :: rest))) :=
  own_acmp X hx hd rfl rfl ho hT hF (fun q => kT (by simpa [acV] using q)) (fun q => kF (by simpa [acV] using q))
theorem own_ldcInt (X : Stand p l e R s m args below meth c T locs cells slots) (hx : p.tables.exec = Jvm.exec) (hZ : Z.Warmed39 s.vm) {own : String} {index : Nat} {v : Int32} (hown : s.vm.findClass own = some m.cls) (w : (Jvm.Cond.constant own index v).before a0 Z = true) {pc pc' : Nat} {Ls : Array Slot} {rest : List Value} (hd : decode c.code pc = .ok (.ldc index, 2)) (hp : pc + 2 = pc') (h : own_Ends p e below Φ (T.setTop (mkF m pc' Ls (.int v :: rest)))) : own_Ends p e below Φ (T.setTop (mkF m pc Ls rest)) := by
  subst hp; exact own_via (X.ldcInt hx hown (mvT hZ w) (g := mkF m pc Ls rest) rfl hd) h
theorem own_getF (X : Stand p l e R s m args below meth c T locs cells slots) (hx : p.tables.exec = Jvm.exec) (hZ : Z.Warmed39 s.vm) {own R0 O n d host : String} {index : Nat} (hown : s.vm.findClass own = some m.cls) (w : (Jvm.Cond.fieldLink own index R0 n d).before a0 Z = true ∨ (Jvm.Cond.fieldLinkNest own index R0 n d host).before a0 Z = true) (via : Via Z R0 O n d) (eT : T.heap = h) {a : Addr} {v : Value} (F : Fld Z h a O n d v) {pc pc' : Nat} {Ls : Array Slot} {rest : List Value}
    (hd : decode c.code pc = .ok (.getfield index, 3)) (hp : pc + 3 = pc') (k : ∀ T', Stand p l e R s m args below meth c T' locs cells slots → T'.heap = h → own_Ends p e below Φ (T'.setTop (mkF m pc' Ls (v :: rest)))) : own_Ends p e below Φ (T.setTop (mkF m pc Ls (.ref a :: rest))) := by
  subst hp; obtain ⟨T', X', e', st⟩ := getF X hx hZ hown w via eT F (g := mkF m pc Ls (.ref a :: rest)) rfl rfl hd
  exact own_via st (k T' X' e')
theorem own_getS (X : Stand p l e R s m args below meth c T locs cells slots) (hx : p.tables.exec = Jvm.exec) (hZ : Z.Warmed39 s.vm) {own R0 O n d host : String} {index : Nat} (hown : s.vm.findClass own = some m.cls) (w : (Jvm.Cond.fieldLink own index R0 n d).before a0 Z = true ∨ (Jvm.Cond.fieldLinkNest own index R0 n d host).before a0 Z = true) (via : Via Z R0 O n d) (eT : T.heap = h) {v : Value} (F : Sta Z h O n d v) {pc pc' : Nat} {Ls : Array Slot} {rest : List Value}
    (hd : decode c.code pc = .ok (.getstatic index, 3)) (hp : pc + 3 = pc') (k : ∀ T', Stand p l e R s m args below meth c T' locs cells slots → T'.heap = h → own_Ends p e below Φ (T'.setTop (mkF m pc' Ls (v :: rest)))) : own_Ends p e below Φ (T.setTop (mkF m pc Ls rest)) := by
  subst hp; obtain ⟨T', X', e', st⟩ := getS2 X hx hZ hown w via eT F (g := mkF m pc Ls rest) rfl hd
  exact own_via st (k T' X' e')
theorem own_putF (X : Stand p l e R s m args below meth c T locs cells slots) (hx : p.tables.exec = Jvm.exec) (hZ : Z.Warmed39 s.vm) {own R0 O n d host C : String} {index kk : Nat} {ty : FieldType} (hown : s.vm.findClass own = some m.cls) (w : (Jvm.Cond.fieldLink own index R0 n d).before a0 Z = true ∨ (Jvm.Cond.fieldLinkNest own index R0 n d host).before a0 Z = true) (via : Via Z R0 O n d) (eT : T.heap = h) {a : Addr} {v old : Value} (F : Fld Z h a O n d old) (E : Exa Z h a C)
    (L : (Jvm.Cond.lays C O n d).before a0 Z = true ∨ ((Jvm.Cond.laysFinal C O n d).before a0 Z = true ∧ own = O ∧ meth.name = "<init>")) (wi : (Jvm.Cond.instantiable C kk).before a0 Z = true) (hty : parseFieldDescriptor d = some ty) (hn : narrow ty v = v) (hf : fits ty v = true) {n0 : Nat} (N : Fr n0 locs) (g : n0 ≤ a) {pc pc' : Nat} {Ls : Array Slot} {rest : List Value}
    (hd : decode c.code pc = .ok (.putfield index, 3)) (hp : pc + 3 = pc') (k : ∀ T' h', Stand p l e R s m args below meth c T' (locs ++ [⟨a, Jvm.RoadKit.slotOf Z O n d⟩]) cells slots → T'.heap = h' → Wr h h' a (Jvm.RoadKit.slotOf Z O n d) v → Fr n0 (locs ++ [⟨a, Jvm.RoadKit.slotOf Z O n d⟩]) → own_Ends p e below Φ (T'.setTop (mkF m pc' Ls rest))) : own_Ends p e below Φ (T.setTop (mkF m pc Ls (v :: .ref a :: rest))) := by
  subst hp; obtain ⟨T', h', X', e', W', st⟩ := putF X hx hZ hown w via eT F E L wi hty hn hf (g := mkF m pc Ls (v :: .ref a :: rest)) rfl rfl hd
  exact own_via st (k T' h' X' e' W' (Fr.snoc X' N g))
theorem own_putFN (X : Stand p l e R s m args below meth c T locs cells slots) (hx : p.tables.exec = Jvm.exec) (hZ : Z.Warmed39 s.vm) {own R0 O n d C : String} {index kk : Nat} {ty : FieldType} (hown : s.vm.findClass own = some m.cls) (w : (Jvm.Cond.fieldLink own index R0 n d).before a0 Z = true) (via : Via Z R0 O n d) (eT : T.heap = h) {a : Addr} {v old : Value} (v' : Value) (F : Fld Z h a O n d old) (E : Exa Z h a C)
    (L : (Jvm.Cond.lays C O n d).before a0 Z = true ∨ ((Jvm.Cond.laysFinal C O n d).before a0 Z = true ∧ own = O ∧ meth.name = "<init>")) (wi : (Jvm.Cond.instantiable C kk).before a0 Z = true) (hty : parseFieldDescriptor d = some ty) (hn : narrow ty v = v') (hf : fits ty v' = true) {n0 : Nat} (N : Fr n0 locs) (g : n0 ≤ a) {pc pc' : Nat} {Ls : Array Slot} {rest : List Value}
    (hd : decode c.code pc = .ok (.putfield index, 3)) (hp : pc + 3 = pc') (k : ∀ T' h', Stand p l e R s m args below meth c T' (locs ++ [⟨a, Jvm.RoadKit.slotOf Z O n d⟩]) cells slots → T'.heap = h' → Wr h h' a (Jvm.RoadKit.slotOf Z O n d) v' → Fr n0 (locs ++ [⟨a, Jvm.RoadKit.slotOf Z O n d⟩]) → own_Ends p e below Φ (T'.setTop (mkF m pc' Ls rest))) : own_Ends p e below Φ (T.setTop (mkF m pc Ls (v :: .ref a :: rest))) := by
  subst hp; obtain ⟨T', h', X', e', W', st⟩ := putFN X hx hZ hown w via eT F E L wi hty hn hf (g := mkF m pc Ls (v :: .ref a :: rest)) rfl rfl hd
  exact own_via st (k T' h' X' e' W' (Fr.snoc X' N g))
theorem own_new (X : Stand p l e R s m args below meth c T locs cells slots) (hx : p.tables.exec = Jvm.exec) (hZ : Z.Warmed39 s.vm) {own C : String} {index n : Nat} (hown : s.vm.findClass own = some m.cls) (w : (Jvm.Cond.classLink own index C).before a0 Z = true) (wi : (Jvm.Cond.instantiable C n).before a0 Z = true) (wz : (Jvm.Cond.initialized C).before a0 Z = true) (eT : T.heap = h) {pc pc' : Nat} {Ls : Array Slot} {rest : List Value}
    (hd : decode c.code pc = .ok (.new index, 3)) (hc : cells + 1 ≤ R.cells) (hl : slots + n ≤ R.slots) (hp : pc + 3 = pc')
    (k : ∀ T' h' b, Stand p l e R s m args below meth c T' locs (cells + 1) (slots + n) → T'.heap = h' → b = h.size → Ext h h' → Exa Z h' b C → (∀ {O nm d : String} {ty : FieldType}, Laid Z a0 C O nm d → parseFieldDescriptor d = some ty → Fld Z h' b O nm d (defaultValue ty)) → own_Ends p e below Φ (T'.setTop (mkF m pc' Ls (.ref b :: rest)))) : own_Ends p e below Φ (T.setTop (mkF m pc Ls rest)) := by
  subst hp; obtain ⟨T', h', X', e', E', A', D', -, st⟩ := newO X hx hZ hown w wi wz eT (g := mkF m pc Ls rest) rfl hd hc hl
  exact own_via st (k T' h' _ X' e' rfl E' A' D')
theorem own_initO (X : Stand p l e R s m args below meth c T locs cells slots) (hx : p.tables.exec = Jvm.exec) (hZ : Z.Warmed39 s.vm) {own : String} {idx : Nat} (hown : s.vm.findClass own = some m.cls) (w1 : (Jvm.Cond.methodLink own idx Lib.objectInit).before a0 Z = true) (w2 : (Jvm.Cond.instanceMethod Lib.objectInit).before a0 Z = true) (w3 : (Jvm.Cond.code Lib.objectInit ⟨#[0xb1]⟩ 1 none).before a0 Z = true) (eT : T.heap = h) {a : Addr} {pc pc' : Nat} {Ls : Array Slot} {rest : List Value} (hsize : Ls.size = c.maxLocals)
    (hd : decode c.code pc = .ok (.invokespecial idx, 3)) (W : Nat) (hW : (rest.map fun v => v.category).sum = W) (hf : 1 ≤ R.frames) (hl : W + 12 ≤ R.locals) (hp : pc + 3 = pc') (k : ∀ T', Stand p l e R s m args below meth c T' locs cells slots → T'.heap = h → own_Ends p e below Φ (T'.setTop (mkF m pc' Ls rest))) : own_Ends p e below Φ (T.setTop (mkF m pc Ls (.ref a :: rest))) := by
  subst hp; obtain ⟨T', X', e', st⟩ := initO X hx hZ hown w1 w2 w3 eT (g := mkF m pc Ls (.ref a :: rest)) rfl hsize rfl hd hf (W := W) (by rw [← hW]; show 2 * 0 + _ ≤ _; omega) hl
  exact own_via st (k T' X' e')
theorem own_static (X : Stand p l e R s m args below meth c T locs cells slots) (hx : p.tables.exec = Jvm.exec) (hZ : Z.Warmed39 s.vm) {own : String} {index : Nat} {y : MethodName} {bytes : ByteArray} {maxL : Nat} {ret : Option FieldType} {rm : Room} {Q : Option Value → Heap → List Loc → Prop} (hown : s.vm.findClass own = some m.cls) (w1 : (Jvm.Cond.methodLink own index y).before a0 Z = true) (w2 : (Jvm.Cond.static y).before a0 Z = true) (w3 : (Jvm.Cond.initialized y.cls).before a0 Z = true) (w4 : (Jvm.Cond.code y bytes maxL ret).before a0 Z = true) (hy : y.cls ≠ "java/lang/invoke/MethodHandle" ∧ y.cls ≠ "java/lang/invoke/VarHandle") (eT : T.heap = h) (hf : rm.frames + 1 ≤ R.frames) {W : Nat} (hl : W + (maxL + 11) + rm.locals ≤ R.locals) (hc : cells + rm.cells ≤ R.cells) (hs : slots + rm.slots ≤ R.slots) {pc pc' : Nat} {Ls : Array Slot} (argsL rest : List Value) {st : List Value} (hsize : Ls.size = c.maxLocals) (hM : own_Met l y bytes maxL ret rm Z argsL.toArray h Q)
    {ps : List FieldType} {r : Option FieldType} (hpd : parseMethodDescriptor y.desc = some ⟨ps, r⟩) (hlen : argsL.length = ps.length) (hst : st = argsL.reverse ++ rest) (hW : (rest.map fun v => v.category).sum = W) (hd : decode c.code pc = .ok (.invokestatic index, 3)) (hp : pc + 3 = pc') (k : ∀ v T' L, Stand p l e R s m args below meth c T' (locs ++ L) (cells + rm.cells) (slots + rm.slots) → Q v T'.heap L → own_Ends p e below Φ (T'.setTop (mkF m pc' Ls (v.toList ++ rest)))) : own_Ends p e below Φ (T.setTop (mkF m pc Ls st)) := by
  subst hp
  obtain ⟨v, _, ⟨T', L', k', n'⟩, -, X', ⟨Lc, hQ, e1, e2, e3⟩, st'⟩ := Jvm.LawKit.callS X hx (y := y) hown (mvT hZ w1) (mvT hZ w2) (mvT hZ w3) (mvT hZ w4) hy (backOf (W := W) (hM []) hZ w4 w3 hf hl) (g := mkF m pc Ls st) rfl hsize (argsL := argsL) (rest := rest) (lenOf hpd hlen) hst (by rw [← hW]; show 2 * 0 + _ ≤ _; omega) hd (fun _ _ => ⟨rfl, eT, hc, hs⟩)
  dsimp only [Pt.U, Pt.locs, Pt.cells, Pt.slots] at X' e1 e2 e3 st' hQ
  subst e1 e2 e3
  exact own_via st' (k v T' Lc X' hQ)
theorem own_special (X : Stand p l e R s m args below meth c T locs cells slots) (hx : p.tables.exec = Jvm.exec) (hZ : Z.Warmed39 s.vm) {own : String} {index : Nat} {y : MethodName} {bytes : ByteArray} {maxL : Nat} {rm : Room} {Q : Option Value → Heap → List Loc → Prop} (hy1 : y.name = "<init>") (hown : s.vm.findClass own = some m.cls) (w1 : (Jvm.Cond.methodLink own index y).before a0 Z = true) (w2 : (Jvm.Cond.instanceMethod y).before a0 Z = true) (w3 : (Jvm.Cond.initialized y.cls).before a0 Z = true) (w4 : (Jvm.Cond.code y bytes maxL none).before a0 Z = true) (hy : y.cls ≠ "java/lang/invoke/MethodHandle" ∧ y.cls ≠ "java/lang/invoke/VarHandle") (eT : T.heap = h) (hf : rm.frames + 1 ≤ R.frames) {W : Nat} (hl : W + (maxL + 11) + rm.locals ≤ R.locals) (hc : cells + rm.cells ≤ R.cells) (hs : slots + rm.slots ≤ R.slots) {pc pc' : Nat} {Ls : Array Slot} (argsL rest : List Value) {st : List Value} (hsize : Ls.size = c.maxLocals) {a : Addr} (hM : own_Met l y bytes maxL none rm Z (.ref a :: argsL).toArray h Q)
    {ps : List FieldType} {r : Option FieldType} (hpd : parseMethodDescriptor y.desc = some ⟨ps, r⟩) (hlen : argsL.length = ps.length) (hst : st = argsL.reverse ++ .ref a :: rest) (hW : (rest.map fun v => v.category).sum = W) (hd : decode c.code pc = .ok (.invokespecial index, 3)) (hp : pc + 3 = pc') (k : ∀ v T' L, Stand p l e R s m args below meth c T' (locs ++ L) (cells + rm.cells) (slots + rm.slots) → Q v T'.heap L → own_Ends p e below Φ (T'.setTop (mkF m pc' Ls (v.toList ++ rest)))) : own_Ends p e below Φ (T.setTop (mkF m pc Ls st)) := by
  subst hp
  obtain ⟨v, _, ⟨T', L', k', n'⟩, -, X', ⟨Lc, hQ, e1, e2, e3⟩, st'⟩ := X.specialBack hx (y := y) hy1 hown (mvT hZ w1) (mvT hZ w2) (mvT hZ w4) hy (backOf (W := W) (hM []) hZ w4 w3 hf hl) (g := mkF m pc Ls st) rfl hsize (Steps.refl _) (a := a) (argsL := argsL) (rest := rest) (lenOf hpd hlen) hst (by rw [← hW]; show 2 * 0 + _ ≤ _; omega) hd (fun _ _ => ⟨rfl, eT, hc, hs⟩)
  dsimp only [Pt.U, Pt.locs, Pt.cells, Pt.slots] at X' e1 e2 e3 st' hQ
  subst e1 e2 e3
  exact own_thru st' (k v T' Lc X' hQ)
theorem own_virtual (X : Stand p l e R s m args below meth c T locs cells slots) (hx : p.tables.exec = Jvm.exec) (hZ : Z.Warmed39 s.vm) {own C : String} {index : Nat} {y z : MethodName} {bytes : ByteArray} {maxL : Nat} {ret : Option FieldType} {rm : Room} {Q : Option Value → Heap → List Loc → Prop} (hown : s.vm.findClass own = some m.cls) (w1 : (Jvm.Cond.methodLink own index y).before a0 Z = true) (w2 : (Jvm.Cond.declares y).before a0 Z = true) (hnf : NotFace s y) (w3 : (Jvm.Cond.selects C y z).before a0 Z = true) (w4 : (Jvm.Cond.instanceMethod z).before a0 Z = true) (w5 : (Jvm.Cond.initialized z.cls).before a0 Z = true) (w6 : (Jvm.Cond.code z bytes maxL ret).before a0 Z = true) (hy : y.cls ≠ "java/lang/invoke/MethodHandle" ∧ y.cls ≠ "java/lang/invoke/VarHandle") (eT : T.heap = h) (hf : rm.frames + 1 ≤ R.frames) {W : Nat} (hl : W + (maxL + 11) + rm.locals ≤ R.locals) (hc : cells + rm.cells ≤ R.cells) (hs : slots + rm.slots ≤ R.slots) {pc pc' : Nat} {Ls : Array Slot} (argsL rest : List Value) {st : List Value} (hsize : Ls.size = c.maxLocals) {a : Addr} (E : Exa Z h a C) (hM : own_Met l z bytes maxL ret rm Z (.ref a :: argsL).toArray h Q)
    {ps : List FieldType} {r : Option FieldType} (hpd : parseMethodDescriptor y.desc = some ⟨ps, r⟩) (hlen : argsL.length = ps.length) (hst : st = argsL.reverse ++ .ref a :: rest) (hW : (rest.map fun v => v.category).sum = W) (hd : decode c.code pc = .ok (.invokevirtual index, 3)) (hp : pc + 3 = pc') (k : ∀ v T' L, Stand p l e R s m args below meth c T' (locs ++ L) (cells + rm.cells) (slots + rm.slots) → Q v T'.heap L → own_Ends p e below Φ (T'.setTop (mkF m pc' Ls (v.toList ++ rest)))) : own_Ends p e below Φ (T.setTop (mkF m pc Ls st)) := by
  subst hp
  obtain ⟨cq, kq, q1, q2, q3⟩ := isOf hZ eT E
  obtain ⟨v, _, ⟨T', L', k', n'⟩, -, X', ⟨Lc, hQ, e1, e2, e3⟩, st'⟩ := X.virtualBack hx (y := y) (z := z) hown (mvT hZ w1) (mvT hZ w2) hnf (mvT hZ w3) (mvT hZ w4) hy (backOf (W := W) (hM []) hZ w6 w5 hf hl) q1 q3 (g := mkF m pc Ls st) rfl hsize (Steps.refl _) (argsL := argsL) (rest := rest) (lenOf hpd hlen) hst (by rw [← hW]; show 2 * 0 + _ ≤ _; omega) hd (fun _ _ => ⟨rfl, eT, hc, hs⟩)
  dsimp only [Pt.U, Pt.locs, Pt.cells, Pt.slots] at X' e1 e2 e3 st' hQ
  subst e1 e2 e3
  exact own_thru st' (k v T' Lc X' hQ)
theorem own_private (X : Stand p l e R s m args below meth c T locs cells slots) (hx : p.tables.exec = Jvm.exec) (hZ : Z.Warmed39 s.vm) {own : String} {index : Nat} {y : MethodName} {bytes : ByteArray} {maxL : Nat} {ret : Option FieldType} {rm : Room} {Q : Option Value → Heap → List Loc → Prop} (hown : s.vm.findClass own = some m.cls) (w1 : (Jvm.Cond.methodLink own index y).before a0 Z = true) (hnf : ∀ c k, s.vm.findClass y.cls = some c → s.vm.classes[c]? = some k → k.isInterface = false) (w4 : (Jvm.Cond.instanceMethod y).before a0 Z = true) (wp : (Jvm.Cond.privateMethod y).before a0 Z = true) (w5 : (Jvm.Cond.initialized y.cls).before a0 Z = true) (w6 : (Jvm.Cond.code y bytes maxL ret).before a0 Z = true) (hy : y.cls ≠ "java/lang/invoke/MethodHandle" ∧ y.cls ≠ "java/lang/invoke/VarHandle") (eT : T.heap = h) (hf : rm.frames + 1 ≤ R.frames) {W : Nat} (hl : W + (maxL + 11) + rm.locals ≤ R.locals) (hc : cells + rm.cells ≤ R.cells) (hs : slots + rm.slots ≤ R.slots) {pc pc' : Nat} {Ls : Array Slot} (argsL rest : List Value) {st : List Value} (hsize : Ls.size = c.maxLocals) {a : Addr} {C : String} (E : Exa Z h a C) (hM : own_Met l y bytes maxL ret rm Z (.ref a :: argsL).toArray h Q)
    {ps : List FieldType} {r : Option FieldType} (hpd : parseMethodDescriptor y.desc = some ⟨ps, r⟩) (hlen : argsL.length = ps.length) (hst : st = argsL.reverse ++ .ref a :: rest) (hW : (rest.map fun v => v.category).sum = W) (hd : decode c.code pc = .ok (.invokevirtual index, 3)) (hp : pc + 3 = pc') (k : ∀ v T' L, Stand p l e R s m args below meth c T' (locs ++ L) (cells + rm.cells) (slots + rm.slots) → Q v T'.heap L → own_Ends p e below Φ (T'.setTop (mkF m pc' Ls (v.toList ++ rest)))) : own_Ends p e below Φ (T.setTop (mkF m pc Ls st)) := by
  subst hp
  obtain ⟨cl, q1, q2⟩ := E.cell
  have hpr := Cond.privateMethod_at (mvP hZ wp (args := args))
  have hin : (Jvm.Cond.instanceMethod y).before args s = true := mvT hZ w4
  obtain ⟨mk, methM, hnamed, hmethM, -, -⟩ := Cond.instanceMethod_spec hin
  obtain ⟨kk, hkk, -⟩ := className_of_methodNamed hnamed
  have hfc := findClass_of_methodNamed hnamed
  have hsel := selects_self_of_private (args := args) hfc hkk (hnf _ _ hfc hkk) hpr hin hy
  obtain ⟨v, _, ⟨T', L', k', n'⟩, -, X', ⟨Lc, hQ, e1, e2, e3⟩, st'⟩ := X.privateBack hx (y := y) hown (mvT hZ w1) hin hsel hpr (mvT hZ w6) hy (backOf (W := W) (hM []) hZ w6 w5 hf hl) (g := mkF m pc Ls st) rfl hsize (Steps.refl _) (a := a) (by rw [eT]; exact q1) q2 (argsL := argsL) (rest := rest) (lenOf hpd hlen) hst (by rw [← hW]; show 2 * 0 + _ ≤ _; omega) hd (fun _ _ => ⟨rfl, eT, hc, hs⟩)
  dsimp only [Pt.U, Pt.locs, Pt.cells, Pt.slots] at X' e1 e2 e3 st' hQ
  subst e1 e2 e3
  exact own_thru st' (k v T' Lc X' hQ)
theorem own_nf (hZ : Z.Warmed39 s.vm) {C : String} {y z : MethodName} (w : (Jvm.Cond.selects C y z).before a0 Z = true) : ∀ c k, s.vm.findClass z.cls = some c → s.vm.classes[c]? = some k → k.isInterface = false := fun c k h1 h2 => by
  obtain ⟨c2, r2, m2, -, -, q3, -, kP, hkP, hkPi⟩ := Cond.selects_spec (show (Jvm.Cond.selects C y z).before #[] s = true from mvT hZ w)
  have := findClass_of_methodNamed q3
  cases this.symm.trans h1
  cases hkP.symm.trans h2
  exact hkPi
theorem own_leave (X : Stand p l e R s m args below meth c T locs cells slots) (hlocks : meth.locks = false) {v : Option Value} (hv : meth.sig.returnType = none → v = none) {Q : Option Value → Heap → List Loc → Prop} {kc ks : Nat} (hc : cells ≤ kc) (hs : slots ≤ ks) (hq : Q v T.heap locs) {t : State}
    (step : ∀ fs, (∀ (f : JFrame) (acts : List Action), f.method = m → f.locked = none → f.entered = [] → (doReturn e (T.setTop f) acts v).1 = T.setFrames fs) → Steps p.tables e below t (T.setFrames fs)) : own_Ends p e below (own_Post s Q kc ks) t := by
  obtain ⟨fs, hr, hrun, hended, hW, hsame⟩ := X.leave (v := v) hv hlocks
  exact ⟨_, _, step fs hr, hrun, hended, v, locs, rfl, hq, ⟨_, rfl⟩, hW, hsame.mono hc hs⟩
theorem own_retN (X : Stand p l e R s m args below meth c T locs cells slots) (hx : p.tables.exec = Jvm.exec) (hlocks : meth.locks = false) {t : FieldType} (hret : meth.sig.returnType = some t) (ht : t = .boolean ∨ t = .byte ∨ t = .char ∨ t = .short) {pc : Nat} {Ls : Array Slot} {z : Int32} {rest : List Value} (hd : decode c.code pc = .ok (.ireturn, 1)) {Q : Option Value → Heap → List Loc → Prop} {kc ks : Nat} (hc : cells ≤ kc) (hs : slots ≤ ks) (hn : nar t z = z) (hq : Q (some (.int z)) T.heap locs) :
    own_Ends p e below (own_Post s Q kc ks) (T.setTop (mkF m pc Ls (.int z :: rest))) :=
  own_leave X hlocks (v := some (.int (nar t z))) (fun h => by rw [hret] at h; cases h) hc hs (by rw [hn]; exact hq) (fun fs hr => retN X hx hret ht hd hr)
theorem own_retI (X : Stand p l e R s m args below meth c T locs cells slots) (hx : p.tables.exec = Jvm.exec) (hlocks : meth.locks = false) (hret : meth.sig.returnType = some .int) {pc : Nat} {Ls : Array Slot} {z : Int32} {rest : List Value} (hd : decode c.code pc = .ok (.ireturn, 1)) {Q : Option Value → Heap → List Loc → Prop} {kc ks : Nat} (hc : cells ≤ kc) (hs : slots ≤ ks) (hq : Q (some (.int z)) T.heap locs) :
    own_Ends p e below (own_Post s Q kc ks) (T.setTop (mkF m pc Ls (.int z :: rest))) :=
  own_leave X hlocks (v := some (.int z)) (fun h => by rw [hret] at h; cases h) hc hs hq (fun fs hr => retOut X hx hret (w := .int z) rfl (Or.inl ⟨rfl, Or.inl rfl, z, rfl⟩) hd hr)
theorem own_retJ (X : Stand p l e R s m args below meth c T locs cells slots) (hx : p.tables.exec = Jvm.exec) (hlocks : meth.locks = false) (hret : meth.sig.returnType = some .long) {pc : Nat} {Ls : Array Slot} {z : Int64} {rest : List Value} (hd : decode c.code pc = .ok (.lreturn, 1)) {Q : Option Value → Heap → List Loc → Prop} {kc ks : Nat} (hc : cells ≤ kc) (hs : slots ≤ ks) (hq : Q (some (.long z)) T.heap locs) :
    own_Ends p e below (own_Post s Q kc ks) (T.setTop (mkF m pc Ls (.long z :: rest))) :=
  own_leave X hlocks (v := some (.long z)) (fun h => by rw [hret] at h; cases h) hc hs hq (fun fs hr => retOut X hx hret (w := .long z) rfl (Or.inr (Or.inl ⟨rfl, rfl, z, rfl⟩)) hd hr)
theorem own_narR {t : FieldType} (ht : t.isReference = true) {w : Value} (hw : w.isRef = true) : narrow t w = w := by cases t <;> first | (cases w <;> first | rfl | cases hw) | cases ht
theorem own_retA (X : Stand p l e R s m args below meth c T locs cells slots) (hx : p.tables.exec = Jvm.exec) (hlocks : meth.locks = false) {t : FieldType} (hret : meth.sig.returnType = some t) (ht : t.isReference = true) {pc : Nat} {Ls : Array Slot} {w : Value} (hw : w.isRef = true) {rest : List Value} (hd : decode c.code pc = .ok (.areturn, 1)) {Q : Option Value → Heap → List Loc → Prop} {kc ks : Nat} (hc : cells ≤ kc) (hs : slots ≤ ks) (hq : Q (some w) T.heap locs) :
    own_Ends p e below (own_Post s Q kc ks) (T.setTop (mkF m pc Ls (w :: rest))) :=
  own_leave X hlocks (v := some w) (fun h => by rw [hret] at h; cases h) hc hs hq (fun fs hr => retOut X hx hret (own_narR ht hw) (Or.inr (Or.inr (Or.inr (Or.inr ⟨rfl, ht, hw⟩)))) hd hr)
theorem own_ret (X : Stand p l e R s m args below meth c T locs cells slots) (hx : p.tables.exec = Jvm.exec) (hlocks : meth.locks = false) (hret : meth.sig.returnType = none) {pc : Nat} {Ls : Array Slot} (hd : decode c.code pc = .ok (.return_, 1)) {Q : Option Value → Heap → List Loc → Prop} {kc ks : Nat} (hc : cells ≤ kc) (hs : slots ≤ ks) (hq : Q none T.heap locs) :
    own_Ends p e below (own_Post s Q kc ks) (T.setTop (mkF m pc Ls [])) :=
  own_leave X hlocks (v := none) (fun _ => rfl) hc hs hq (fun fs hr => X.returnOut hx hret hd hr)
end OwnKit
section OwnKitH
variable {p : Program} {l : Launch} {e : Env} {R : Room} {s : State} {m : MethodId} {args : Array Value} {below : List Frame} {meth : Method} {c : Code} {T : State} {locs : List Loc} {cells slots : Nat} {Z : State} {a0 : Array Value} {h : Heap} {Φ : Outcome → State → Prop} {vm0 : Vm} {EL : List (String × Nat)} {h0 : Heap}
def own_H (Z : State) (EL : List (String × Nat)) (s : State) (h0 : Heap) (vm0 : Vm) (h : Heap) : Prop := s.heap = h0 ∧ (∃ k0, s.Since vm0 k0 ∧ k0 ≤ h.size) ∧ CHr Z EL s.vm h0 vm0 h
theorem own_H.ext {h' : Heap} (H : own_H Z EL s h0 vm0 h) (E : Ext h h') : own_H Z EL s h0 vm0 h' := ⟨H.1, by obtain ⟨k, h1, h2⟩ := H.2.1; exact ⟨k, h1, Nat.le_trans h2 E.1⟩, H.2.2.trans (CHr.ext E H.2.2.1)⟩
theorem own_H.wr {h' : Heap} {a : Addr} {sl : Nat} {v : Value} (H : own_H Z EL s h0 vm0 h) (W : Wr h h' a sl v) (S : Safe Z EL vm0 h a) : own_H Z EL s h0 vm0 h' := ⟨H.1, by obtain ⟨k, h1, h2⟩ := H.2.1; exact ⟨k, h1, by rw [W.size]; exact h2⟩, H.2.2.trans (CHr.wr W S H.2.2.1)⟩
theorem own_H.keep {h' : Heap} {ws : List Addr} (H : own_H Z EL s h0 vm0 h) (K : Keep h h' ws) (S : ∀ x ∈ ws, Safe Z EL vm0 h x) : own_H Z EL s h0 vm0 h' := ⟨H.1, by obtain ⟨k, h1, h2⟩ := H.2.1; exact ⟨k, h1, Nat.le_trans h2 K.1⟩, H.2.2.trans (CHr.keep K S H.2.2.1)⟩
theorem own_H.ch (H : own_H Z EL s h0 vm0 h) : CHv Z EL vm0 h := H.2.2.1
theorem own_sfE {h' : Heap} {y : Addr} (S : Safe Z EL vm0 h y) (E : Ext h h') (H : own_H Z EL s h0 vm0 h) : Safe Z EL vm0 h' y := Safe.ext E H.ch S
theorem own_sfN {h' : Heap} {y : Addr} (q : y = h.size) (E : Ext h h') (H : own_H Z EL s h0 vm0 h) : Safe Z EL vm0 h' y := Safe.ext E H.ch (Safe.new (Nat.le_of_eq q.symm))
theorem own_sfW {h' : Heap} {y a : Addr} {sl : Nat} {v : Value} (S : Safe Z EL vm0 h y) (W : Wr h h' a sl v) (Sa : Safe Z EL vm0 h a) (H : own_H Z EL s h0 vm0 h) : Safe Z EL vm0 h' y := Safe.wr W Sa H.ch S
theorem own_sfK {h' : Heap} {y : Addr} {ws : List Addr} (S : Safe Z EL vm0 h y) (K : Keep h h' ws) (Sw : ∀ x ∈ ws, Safe Z EL vm0 h x) (H : own_H Z EL s h0 vm0 h) : Safe Z EL vm0 h' y := Safe.keep K Sw H.ch S
def own_PostH (Z : State) (EL : List (String × Nat)) (s : State) (Q : Option Value → Heap → List Loc → Prop) (kc ks : Nat) (o : Outcome) (U : State) : Prop := ∃ v L, o = .returned v ∧ Q v U.heap L ∧ CHr Z EL s.vm s.heap U.vm U.heap ∧ ReturnedEndW s o U L kc ks
def own_MetH (l : Launch) (y : MethodName) (bytes : ByteArray) (maxL : Nat) (ret : Option FieldType) (rm : Room) (Z : State) (EL : List (String × Nat)) (as' : Array Value) (h0 : Heap) (Q : Option Value → Heap → List Loc → Prop) : Prop :=
  ∀ ws : List Jvm.Cond, MetFree l y (head1 (Jvm.Cond.code y bytes maxL ret :: ws) rm) (fun a U => a = as' ∧ Z.Warmed39 U.vm ∧ U.heap = h0 ∧ CHv Z EL U.vm h0) (fun _ _ _ _ _ => True) (fun _ U o U' => ∃ v L, o = .returned v ∧ Q v U'.heap L ∧ CHr Z EL U.vm U.heap U'.vm U'.heap ∧ ReturnedEndW U o U' L rm.cells rm.slots)
theorem own_metH {y : MethodName} {bytes : ByteArray} {maxL : Nat} {ret : Option FieldType} {rm : Room} {as' : Array Value} {Q : Option Value → Heap → List Loc → Prop} (hp : plainFor y = true)
    (body : ∀ (p : Program) (e : Env) (s : State) (m : MethodId) (below : List Frame) (meth : Method) (c : Code) (T : State), p.tables.exec = Jvm.exec → c.code = bytes → c.maxLocals = maxL → Z.Warmed39 (s.setVm s.vm).vm → (s.setVm s.vm).vm.findClass y.cls = some m.cls → meth.name = y.name → meth.sig.returnType = ret → meth.locks = false →
      Stand p l e rm (s.setVm s.vm) m as' below meth c T [] 0 0 → T.heap = h0 → s.heap = h0 → own_H Z EL s h0 s.vm h0 → own_Ends p e below (own_PostH Z EL s Q rm.cells rm.slots) (T.setTop (entryFrame m as' maxL))) : own_MetH l y bytes maxL ret rm Z EL as' h0 Q := by
  intro ws
  refine MetFree.of_bodySF hp hisR ?_
  intro p e s m args below meth c s₁ Bd hml0 hP hK
  obtain ⟨rfl, hZ, hh, hC⟩ := hP
  exact body p e s m below meth c s₁ Bd.exec Bd.bytes hml0 hZ (findClass_of_methodNamed Bd.named) (name_of_methodNamed Bd.named Bd.method).1 Bd.returns (BodyLoose.notSynchronized Bd) (Stand.of_body Bd) (by rw [← hh, Bd.state]; rfl) hh ⟨hh, ⟨0, ⟨State.Warmed39.refl s, (State.WarmedH.refl s).no_new_pair 0⟩, Nat.zero_le _⟩, CHr.refl hC⟩
/-- a plain contract serves where an H one is asked -/
theorem own_leaveH (X : Stand p l e R (s.setVm vm0) m args below meth c T locs cells slots) (hlocks : meth.locks = false) {v : Option Value} (hv : meth.sig.returnType = none → v = none) (hZ : Z.Warmed39 (s.setVm vm0).vm) (eT : T.heap = h) (HH : own_H Z EL s h0 vm0 h) (hEL : EW Z a0 EL) {Q : Option Value → Heap → List Loc → Prop} {kc ks : Nat} (hc : cells ≤ kc) (hs : slots ≤ ks) (hq : Q v T.heap locs) {t : State}
    (step : ∀ fs, (∀ (f : JFrame) (acts : List Action), f.method = m → f.locked = none → f.entered = [] → (doReturn e (T.setTop f) acts v).1 = T.setFrames fs) → Steps p.tables e below t (T.setFrames fs)) : own_Ends p e below (own_PostH Z EL s Q kc ks) t := by
  obtain ⟨hh, ⟨k0, hS, hk⟩, hC⟩ := HH
  obtain ⟨fs, hr, hrun, hended, hE⟩ := X.leaveW hS (by rw [eT]; exact hk) (v := v) hv hlocks
  subst hh eT
  have A := hC.trans (CHv.at X hZ hEL hC.1)
  exact ⟨_, _, step fs hr, hrun, hended, v, locs, rfl, hq, A, hE.1, hE.2.1, hE.2.2.1, hE.2.2.2.mono hc hs⟩
theorem own_retNH (X : Stand p l e R (s.setVm vm0) m args below meth c T locs cells slots) (hx : p.tables.exec = Jvm.exec) (hZ : Z.Warmed39 (s.setVm vm0).vm) (eT : T.heap = h) (HH : own_H Z EL s h0 vm0 h) (hEL : EW Z a0 EL) (hlocks : meth.locks = false) {t : FieldType} (hret : meth.sig.returnType = some t) (ht : t = .boolean ∨ t = .byte ∨ t = .char ∨ t = .short) {pc : Nat} {Ls : Array Slot} {z : Int32} {rest : List Value} (hd : decode c.code pc = .ok (.ireturn, 1)) {Q : Option Value → Heap → List Loc → Prop} {kc ks : Nat} (hc : cells ≤ kc) (hs : slots ≤ ks) (hn : nar t z = z) (hq : Q (some (.int z)) T.heap locs) :
    own_Ends p e below (own_PostH Z EL s Q kc ks) (T.setTop (mkF m pc Ls (.int z :: rest))) :=
  own_leaveH X hlocks (v := some (.int (nar t z))) (fun h => by rw [hret] at h; cases h) hZ eT HH hEL hc hs (by rw [hn]; exact hq) (fun fs hr => retN X hx hret ht hd hr)
theorem own_retIH (X : Stand p l e R (s.setVm vm0) m args below meth c T locs cells slots) (hx : p.tables.exec = Jvm.exec) (hZ : Z.Warmed39 (s.setVm vm0).vm) (eT : T.heap = h) (HH : own_H Z EL s h0 vm0 h) (hEL : EW Z a0 EL) (hlocks : meth.locks = false) (hret : meth.sig.returnType = some .int) {pc : Nat} {Ls : Array Slot} {z : Int32} {rest : List Value} (hd : decode c.code pc = .ok (.ireturn, 1)) {Q : Option Value → Heap → List Loc → Prop} {kc ks : Nat} (hc : cells ≤ kc) (hs : slots ≤ ks) (hq : Q (some (.int z)) T.heap locs) :
    own_Ends p e below (own_PostH Z EL s Q kc ks) (T.setTop (mkF m pc Ls (.int z :: rest))) :=
  own_leaveH X hlocks (v := some (.int z)) (fun h => by rw [hret] at h; cases h) hZ eT HH hEL hc hs hq (fun fs hr => retOut X hx hret (w := .int z) rfl (Or.inl ⟨rfl, Or.inl rfl, z, rfl⟩) hd hr)
theorem own_retJH (X : Stand p l e R (s.setVm vm0) m args below meth c T locs cells slots) (hx : p.tables.exec = Jvm.exec) (hZ : Z.Warmed39 (s.setVm vm0).vm) (eT : T.heap = h) (HH : own_H Z EL s h0 vm0 h) (hEL : EW Z a0 EL) (hlocks : meth.locks = false) (hret : meth.sig.returnType = some .long) {pc : Nat} {Ls : Array Slot} {z : Int64} {rest : List Value} (hd : decode c.code pc = .ok (.lreturn, 1)) {Q : Option Value → Heap → List Loc → Prop} {kc ks : Nat} (hc : cells ≤ kc) (hs : slots ≤ ks) (hq : Q (some (.long z)) T.heap locs) :
    own_Ends p e below (own_PostH Z EL s Q kc ks) (T.setTop (mkF m pc Ls (.long z :: rest))) :=
  own_leaveH X hlocks (v := some (.long z)) (fun h => by rw [hret] at h; cases h) hZ eT HH hEL hc hs hq (fun fs hr => retOut X hx hret (w := .long z) rfl (Or.inr (Or.inl ⟨rfl, rfl, z, rfl⟩)) hd hr)
theorem own_retAH (X : Stand p l e R (s.setVm vm0) m args below meth c T locs cells slots) (hx : p.tables.exec = Jvm.exec) (hZ : Z.Warmed39 (s.setVm vm0).vm) (eT : T.heap = h) (HH : own_H Z EL s h0 vm0 h) (hEL : EW Z a0 EL) (hlocks : meth.locks = false) {t : FieldType} (hret : meth.sig.returnType = some t) (ht : t.isReference = true) {pc : Nat} {Ls : Array Slot} {w : Value} (hw : w.isRef = true) {rest : List Value} (hd : decode c.code pc = .ok (.areturn, 1)) {Q : Option Value → Heap → List Loc → Prop} {kc ks : Nat} (hc : cells ≤ kc) (hs : slots ≤ ks) (hq : Q (some w) T.heap locs) :
    own_Ends p e below (own_PostH Z EL s Q kc ks) (T.setTop (mkF m pc Ls (w :: rest))) :=
  own_leaveH X hlocks (v := some w) (fun h => by rw [hret] at h; cases h) hZ eT HH hEL hc hs hq (fun fs hr => retOut X hx hret (own_narR ht hw) (Or.inr (Or.inr (Or.inr (Or.inr ⟨rfl, ht, hw⟩)))) hd hr)
theorem own_retH (X : Stand p l e R (s.setVm vm0) m args below meth c T locs cells slots) (hx : p.tables.exec = Jvm.exec) (hZ : Z.Warmed39 (s.setVm vm0).vm) (eT : T.heap = h) (HH : own_H Z EL s h0 vm0 h) (hEL : EW Z a0 EL) (hlocks : meth.locks = false) (hret : meth.sig.returnType = none) {pc : Nat} {Ls : Array Slot} (hd : decode c.code pc = .ok (.return_, 1)) {Q : Option Value → Heap → List Loc → Prop} {kc ks : Nat} (hc : cells ≤ kc) (hs : slots ≤ ks) (hq : Q none T.heap locs) :
    own_Ends p e below (own_PostH Z EL s Q kc ks) (T.setTop (mkF m pc Ls [])) :=
  own_leaveH X hlocks (v := none) (fun _ => rfl) hZ eT HH hEL hc hs hq (fun fs hr => X.returnOut hx hret hd hr)
theorem own_staticH (X : Stand p l e R (s.setVm vm0) m args below meth c T locs cells slots) (hx : p.tables.exec = Jvm.exec) (hZ : Z.Warmed39 (s.setVm vm0).vm) {own : String} {index : Nat} {y : MethodName} {bytes : ByteArray} {maxL : Nat} {ret : Option FieldType} {rm : Room} {Q : Option Value → Heap → List Loc → Prop} (hown : (s.setVm vm0).vm.findClass own = some m.cls) (w1 : (Jvm.Cond.methodLink own index y).before a0 Z = true) (w2 : (Jvm.Cond.static y).before a0 Z = true) (w3 : (Jvm.Cond.initialized y.cls).before a0 Z = true) (w4 : (Jvm.Cond.code y bytes maxL ret).before a0 Z = true) (hy : y.cls ≠ "java/lang/invoke/MethodHandle" ∧ y.cls ≠ "java/lang/invoke/VarHandle") (HH : own_H Z EL s h0 vm0 h) (hEL : EW Z a0 EL) (eT : T.heap = h) (hf : rm.frames + 1 ≤ R.frames) {W : Nat} (hl : W + (maxL + 11) + rm.locals ≤ R.locals) (hc : cells + rm.cells ≤ R.cells) (hs : slots + rm.slots ≤ R.slots) {pc pc' : Nat} {Ls : Array Slot} (argsL rest : List Value) {st : List Value} (hsize : Ls.size = c.maxLocals) (hM : own_MetH l y bytes maxL ret rm Z EL argsL.toArray h Q)
    {ps : List FieldType} {r : Option FieldType} (hpd : parseMethodDescriptor y.desc = some ⟨ps, r⟩) (hlen : argsL.length = ps.length) (hst : st = argsL.reverse ++ rest) (hW : (rest.map fun v => v.category).sum = W) (hd : decode c.code pc = .ok (.invokestatic index, 3)) (hp : pc + 3 = pc') (k : ∀ v T' L, Stand p l e R (s.setVm T'.vm) m args below meth c T' (locs ++ L) (cells + rm.cells) (slots + rm.slots) → Q v T'.heap L → Z.Warmed39 (s.setVm T'.vm).vm → (s.setVm T'.vm).vm.findClass own = some m.cls → own_H Z EL s h0 T'.vm T'.heap → CHr Z EL vm0 h T'.vm T'.heap → own_Ends p e below Φ (T'.setTop (mkF m pc' Ls (v.toList ++ rest)))) : own_Ends p e below Φ (T.setTop (mkF m pc Ls st)) := by
  subst hp
  obtain ⟨v, _, ⟨T', L', k', n'⟩, -, X', hS', hgr, ⟨Lc, hQ, e1, e2, e3, hC⟩, st'⟩ :=  callSS X hx (y := y) hown (mvT hZ w1) (mvT hZ w2) (mvT hZ w3) (mvT hZ w4) hy (backOfSH (s := s) (vm0 := vm0) (W := W) (hM []) hZ w4 w3 hf hl hEL HH.ch) (g := mkF m pc Ls st) rfl hsize (argsL := argsL) (rest := rest) (lenOf hpd hlen) hst (by rw [← hW]; show 2 * 0 + _ ≤ _; omega) hd (fun _ _ => ⟨rfl, eT, hc, hs⟩)
  dsimp only [Pt.U, Pt.locs, Pt.cells, Pt.slots] at X' hS' hgr e1 e2 e3 hC st' hQ
  subst e1 e2 e3
  obtain ⟨hh, ⟨k0, hS, hk⟩, hC0⟩ := HH
  subst eT
  exact own_thru st' (k v T' Lc X' hQ (State.Warmed39.trans (t := s.setVm vm0) hZ hS'.1) (by rw [show (s.setVm T'.vm).vm = T'.vm from rfl, hS'.1.alike.findClass]; exact hown) ⟨hh, ⟨_, hS.trans hS' (Nat.le_trans hk hgr), Nat.le_refl _⟩, hC0.trans hC⟩ hC)
theorem own_specialH (X : Stand p l e R (s.setVm vm0) m args below meth c T locs cells slots) (hx : p.tables.exec = Jvm.exec) (hZ : Z.Warmed39 (s.setVm vm0).vm) {own : String} {index : Nat} {y : MethodName} {bytes : ByteArray} {maxL : Nat} {rm : Room} {Q : Option Value → Heap → List Loc → Prop} (hy1 : y.name = "<init>") (hown : (s.setVm vm0).vm.findClass own = some m.cls) (w1 : (Jvm.Cond.methodLink own index y).before a0 Z = true) (w2 : (Jvm.Cond.instanceMethod y).before a0 Z = true) (w3 : (Jvm.Cond.initialized y.cls).before a0 Z = true) (w4 : (Jvm.Cond.code y bytes maxL none).before a0 Z = true) (hy : y.cls ≠ "java/lang/invoke/MethodHandle" ∧ y.cls ≠ "java/lang/invoke/VarHandle") (HH : own_H Z EL s h0 vm0 h) (hEL : EW Z a0 EL) (eT : T.heap = h) (hf : rm.frames + 1 ≤ R.frames) {W : Nat} (hl : W + (maxL + 11) + rm.locals ≤ R.locals) (hc : cells + rm.cells ≤ R.cells) (hs : slots + rm.slots ≤ R.slots) {pc pc' : Nat} {Ls : Array Slot} (argsL rest : List Value) {st : List Value} (hsize : Ls.size = c.maxLocals) {a : Addr} (hM : own_MetH l y bytes maxL none rm Z EL (.ref a :: argsL).toArray h Q)
    {ps : List FieldType} {r : Option FieldType} (hpd : parseMethodDescriptor y.desc = some ⟨ps, r⟩) (hlen : argsL.length = ps.length) (hst : st = argsL.reverse ++ .ref a :: rest) (hW : (rest.map fun v => v.category).sum = W) (hd : decode c.code pc = .ok (.invokespecial index, 3)) (hp : pc + 3 = pc') (k : ∀ v T' L, Stand p l e R (s.setVm T'.vm) m args below meth c T' (locs ++ L) (cells + rm.cells) (slots + rm.slots) → Q v T'.heap L → Z.Warmed39 (s.setVm T'.vm).vm → (s.setVm T'.vm).vm.findClass own = some m.cls → own_H Z EL s h0 T'.vm T'.heap → CHr Z EL vm0 h T'.vm T'.heap → own_Ends p e below Φ (T'.setTop (mkF m pc' Ls (v.toList ++ rest)))) : own_Ends p e below Φ (T.setTop (mkF m pc Ls st)) := by
  subst hp
  obtain ⟨v, _, ⟨T', L', k', n'⟩, -, X', hS', hgr, ⟨Lc, hQ, e1, e2, e3, hC⟩, st'⟩ :=  X.specialBackS hx (y := y) hy1 hown (mvT hZ w1) (mvT hZ w2) (mvT hZ w4) hy (backOfSH (s := s) (vm0 := vm0) (W := W) (hM []) hZ w4 w3 hf hl hEL HH.ch) (g := mkF m pc Ls st) rfl hsize (Steps.refl _) (a := a) (argsL := argsL) (rest := rest) (lenOf hpd hlen) hst (by rw [← hW]; show 2 * 0 + _ ≤ _; omega) hd (fun _ _ => ⟨rfl, eT, hc, hs⟩)
  dsimp only [Pt.U, Pt.locs, Pt.cells, Pt.slots] at X' hS' hgr e1 e2 e3 hC st' hQ
  subst e1 e2 e3
  obtain ⟨hh, ⟨k0, hS, hk⟩, hC0⟩ := HH
  subst eT
  exact own_thru st' (k v T' Lc X' hQ (State.Warmed39.trans (t := s.setVm vm0) hZ hS'.1) (by rw [show (s.setVm T'.vm).vm = T'.vm from rfl, hS'.1.alike.findClass]; exact hown) ⟨hh, ⟨_, hS.trans hS' (Nat.le_trans hk hgr), Nat.le_refl _⟩, hC0.trans hC⟩ hC)
theorem own_virtualH (X : Stand p l e R (s.setVm vm0) m args below meth c T locs cells slots) (hx : p.tables.exec = Jvm.exec) (hZ : Z.Warmed39 (s.setVm vm0).vm) {own C : String} {index : Nat} {y z : MethodName} {bytes : ByteArray} {maxL : Nat} {ret : Option FieldType} {rm : Room} {Q : Option Value → Heap → List Loc → Prop} (hown : (s.setVm vm0).vm.findClass own = some m.cls) (w1 : (Jvm.Cond.methodLink own index y).before a0 Z = true) (w2 : (Jvm.Cond.declares y).before a0 Z = true) (hnf : NotFace (s.setVm vm0) y) (w3 : (Jvm.Cond.selects C y z).before a0 Z = true) (w4 : (Jvm.Cond.instanceMethod z).before a0 Z = true) (w5 : (Jvm.Cond.initialized z.cls).before a0 Z = true) (w6 : (Jvm.Cond.code z bytes maxL ret).before a0 Z = true) (hy : y.cls ≠ "java/lang/invoke/MethodHandle" ∧ y.cls ≠ "java/lang/invoke/VarHandle") (HH : own_H Z EL s h0 vm0 h) (hEL : EW Z a0 EL) (eT : T.heap = h) (hf : rm.frames + 1 ≤ R.frames) {W : Nat} (hl : W + (maxL + 11) + rm.locals ≤ R.locals) (hc : cells + rm.cells ≤ R.cells) (hs : slots + rm.slots ≤ R.slots) {pc pc' : Nat} {Ls : Array Slot} (argsL rest : List Value) {st : List Value} (hsize : Ls.size = c.maxLocals) {a : Addr} (E : Exa Z h a C) (hM : own_MetH l z bytes maxL ret rm Z EL (.ref a :: argsL).toArray h Q)
    {ps : List FieldType} {r : Option FieldType} (hpd : parseMethodDescriptor y.desc = some ⟨ps, r⟩) (hlen : argsL.length = ps.length) (hst : st = argsL.reverse ++ .ref a :: rest) (hW : (rest.map fun v => v.category).sum = W) (hd : decode c.code pc = .ok (.invokevirtual index, 3)) (hp : pc + 3 = pc') (k : ∀ v T' L, Stand p l e R (s.setVm T'.vm) m args below meth c T' (locs ++ L) (cells + rm.cells) (slots + rm.slots) → Q v T'.heap L → Z.Warmed39 (s.setVm T'.vm).vm → (s.setVm T'.vm).vm.findClass own = some m.cls → own_H Z EL s h0 T'.vm T'.heap → CHr Z EL vm0 h T'.vm T'.heap → own_Ends p e below Φ (T'.setTop (mkF m pc' Ls (v.toList ++ rest)))) : own_Ends p e below Φ (T.setTop (mkF m pc Ls st)) := by
  subst hp
  obtain ⟨cq, kq, q1, q2, q3⟩ := isOf hZ eT E
  obtain ⟨v, _, ⟨T', L', k', n'⟩, -, X', hS', hgr, ⟨Lc, hQ, e1, e2, e3, hC⟩, st'⟩ :=  X.virtualBackS hx (y := y) (z := z) hown (mvT hZ w1) (mvT hZ w2) hnf (mvT hZ w3) (mvT hZ w4) hy (backOfSH (s := s) (vm0 := vm0) (W := W) (hM []) hZ w6 w5 hf hl hEL HH.ch) q1 q3 (g := mkF m pc Ls st) rfl hsize (Steps.refl _) (argsL := argsL) (rest := rest) (lenOf hpd hlen) hst (by rw [← hW]; show 2 * 0 + _ ≤ _; omega) hd (fun _ _ => ⟨rfl, eT, hc, hs⟩)
  dsimp only [Pt.U, Pt.locs, Pt.cells, Pt.slots] at X' hS' hgr e1 e2 e3 hC st' hQ
  subst e1 e2 e3
  obtain ⟨hh, ⟨k0, hS, hk⟩, hC0⟩ := HH
  subst eT
  exact own_thru st' (k v T' Lc X' hQ (State.Warmed39.trans (t := s.setVm vm0) hZ hS'.1) (by rw [show (s.setVm T'.vm).vm = T'.vm from rfl, hS'.1.alike.findClass]; exact hown) ⟨hh, ⟨_, hS.trans hS' (Nat.le_trans hk hgr), Nat.le_refl _⟩, hC0.trans hC⟩ hC)
/-- ldc of a String literal, its text read -/
theorem own_ldcS (X : Stand p l e R (s.setVm vm0) m args below meth c T locs cells slots) (hx : p.tables.exec = Jvm.exec) (hZ : Z.Warmed39 (s.setVm vm0).vm) {own text : String} {index : Nat} (hown : (s.setVm vm0).vm.findClass own = some m.cls) (w : (Jvm.Cond.stringLink own index text).before a0 Z = true) (wS : ∀ a ∈ Bundle.stringAtoms, a.before a0 Z = true) (eT : T.heap = h) (HH : own_H Z EL s h0 vm0 h) (hEL : EW Z a0 EL) (hmem : (own, index) ∈ EL)
    {vs : List Value} {z : Int32} (ht : (∀ c ∈ text.toList, c.toNat < 256) ∧ text.toList.map (fun c => Value.int (Jvm.Lit.byteI c.toNat.toUInt16)) = vs) (hz : ¬ z < 0) (hl : z.toNatClampNeg = vs.length) {pc pc' : Nat} {Ls : Array Slot} {rest : List Value} (hd : decode c.code pc = .ok (.ldc index, 2)) (n : Nat) (hn : 4 * text.toList.length ≤ n) (hbig : n ≤ 536870912) (hc : cells + 2 ≤ R.cells) (hl' : slots + (n + 4) ≤ R.slots) (hp : pc + 2 = pc')
    (k : ∀ (a : Addr) (T' : State) (h' : Heap) (b : Addr) (kk : ClassId), Stand p l e R (s.setVm T'.vm) m args below meth c T' locs (cells + 2) (slots + (n + 4)) → T'.heap = h' → Ext h h' → Z.Warmed39 (s.setVm T'.vm).vm → (s.setVm T'.vm).vm.findClass own = some m.cls → own_H Z EL s h0 T'.vm h' → CHr Z EL vm0 h T'.vm h' → Exa Z h' a "java/lang/String" → Fld Z h' a "java/lang/String" "coder" "B" (.int 0) → Fld Z h' a "java/lang/String" "value" "[B" (.ref b) → Arv Z h' b kk .byte z vs (.int 0) → (∀ x, Safe Z EL T'.vm h' x → x ≠ a ∧ x ≠ b) → own_Ends p e below Φ (T'.setTop (mkF m pc' Ls (.ref a :: rest)))) : own_Ends p e below Φ (T.setTop (mkF m pc Ls rest)) := by
  subst hp
  obtain ⟨hh, ⟨k0, hS, hk⟩, hC0⟩ := HH
  obtain ⟨a, T', h', k1, b, kk, X', e', E', hS', hk', hZ', hown', A', c', v', V', -, -, hC, -, hne, st⟩ := ldcCH X hx hZ hown w wS eT hS hk hEL hmem hC0.1 ht hz hl (g := mkF m pc Ls rest) rfl hd hn hbig hc hl'
  exact own_via st (k a T' h' b kk X' e' E' hZ' hown' ⟨hh, ⟨k1, hS', hk'⟩, hC0.trans hC⟩ hC A' c' v' V' hne)
theorem own_retDH (X : Stand p l e R (s.setVm vm0) m args below meth c T locs cells slots) (hx : p.tables.exec = Jvm.exec) (hZ : Z.Warmed39 (s.setVm vm0).vm) (eT : T.heap = h) (HH : own_H Z EL s h0 vm0 h) (hEL : EW Z a0 EL) (hlocks : meth.locks = false) (hret : meth.sig.returnType = some .double) {pc : Nat} {Ls : Array Slot} {z : UInt64} {rest : List Value} (hd : decode c.code pc = .ok (.dreturn, 1)) {Q : Option Value → Heap → List Loc → Prop} {kc ks : Nat} (hc : cells ≤ kc) (hs : slots ≤ ks) (hq : Q (some (.double z)) T.heap locs) :
    own_Ends p e below (own_PostH Z EL s Q kc ks) (T.setTop (mkF m pc Ls (.double z :: rest))) :=
  own_leaveH X hlocks (v := some (.double z)) (fun h => by rw [hret] at h; cases h) hZ eT HH hEL hc hs hq (fun fs hr => retOut X hx hret (w := .double z) rfl (Or.inr (Or.inr (Or.inl ⟨rfl, rfl, z, rfl⟩))) hd hr)
end OwnKitH
section OwnKitB
variable {p : Program} {l : Launch} {e : Env} {R : Room} {s : State} {m : MethodId} {args : Array Value} {below : List Frame} {meth : Method} {c : Code} {T : State} {locs : List Loc} {cells slots : Nat} {Z : State} {a0 : Array Value} {h : Heap} {Φ : Outcome → State → Prop}
theorem own_staticB (X : Stand p l e R s m args below meth c T locs cells slots) (hx : p.tables.exec = Jvm.exec) (hZ : Z.Warmed39 s.vm) {own : String} {index : Nat} {y : MethodName} {bytes : ByteArray} {maxL : Nat} {ret : Option FieldType} (hown : s.vm.findClass own = some m.cls) (w1 : (Jvm.Cond.methodLink own index y).before a0 Z = true) (w2 : (Jvm.Cond.static y).before a0 Z = true) (w3 : (Jvm.Cond.initialized y.cls).before a0 Z = true) (w4 : (Jvm.Cond.code y bytes maxL ret).before a0 Z = true) (hy : y.cls ≠ "java/lang/invoke/MethodHandle" ∧ y.cls ≠ "java/lang/invoke/VarHandle") {ce sl : Nat} (eT : T.heap = h) {W : Nat} (hc : cells + ce ≤ R.cells) (hs : slots + sl ≤ R.slots) {pc pc' : Nat} {Ls : Array Slot} (argsL rest : List Value) {st : List Value} (hsize : Ls.size = c.maxLocals) (Q : Option Value → Heap → List Loc → Prop) (hK : Back l R p e below s args y 3 W (fun P a' => a' = argsL.toArray ∧ P.U.heap = h ∧ P.cells + ce ≤ R.cells ∧ P.slots + sl ≤ R.slots) (fun P _ v B => ∃ L, Q v B.U.heap L ∧ B.locs = P.locs ++ L ∧ B.cells = P.cells + ce ∧ B.slots = P.slots + sl))
    {ps : List FieldType} {r : Option FieldType} (hpd : parseMethodDescriptor y.desc = some ⟨ps, r⟩) (hlen : argsL.length = ps.length) (hst : st = argsL.reverse ++ rest) (hW : (rest.map fun v => v.category).sum = W) (hd : decode c.code pc = .ok (.invokestatic index, 3)) (hp : pc + 3 = pc') (k : ∀ v T' L, Stand p l e R s m args below meth c T' (locs ++ L) (cells + ce) (slots + sl) → Q v T'.heap L → own_Ends p e below Φ (T'.setTop (mkF m pc' Ls (v.toList ++ rest)))) : own_Ends p e below Φ (T.setTop (mkF m pc Ls st)) := by
  subst hp
  obtain ⟨v, _, ⟨T', L', k', n'⟩, -, X', ⟨Lc, hQ, e1, e2, e3⟩, st'⟩ :=  Jvm.LawKit.callS X hx (y := y) hown (mvT hZ w1) (mvT hZ w2) (mvT hZ w3) (mvT hZ w4) hy hK (g := mkF m pc Ls st) rfl hsize (argsL := argsL) (rest := rest) (lenOf hpd hlen) hst (by rw [← hW]; show 2 * 0 + _ ≤ _; omega) hd (fun _ _ => ⟨rfl, eT, hc, hs⟩)
  dsimp only [Pt.U, Pt.locs, Pt.cells, Pt.slots] at X' e1 e2 e3 st' hQ
  subst e1 e2 e3
  exact own_via st' (k v T' Lc X' hQ)
theorem own_specialB (X : Stand p l e R s m args below meth c T locs cells slots) (hx : p.tables.exec = Jvm.exec) (hZ : Z.Warmed39 s.vm) {own : String} {index : Nat} {y : MethodName} {bytes : ByteArray} {maxL : Nat} (hy1 : y.name = "<init>") (hown : s.vm.findClass own = some m.cls) (w1 : (Jvm.Cond.methodLink own index y).before a0 Z = true) (w2 : (Jvm.Cond.instanceMethod y).before a0 Z = true) (w4 : (Jvm.Cond.code y bytes maxL none).before a0 Z = true) (hy : y.cls ≠ "java/lang/invoke/MethodHandle" ∧ y.cls ≠ "java/lang/invoke/VarHandle") {ce sl : Nat} (eT : T.heap = h) {W : Nat} (hc : cells + ce ≤ R.cells) (hs : slots + sl ≤ R.slots) {pc pc' : Nat} {Ls : Array Slot} (argsL rest : List Value) {st : List Value} (hsize : Ls.size = c.maxLocals) {a : Addr} (Q : Option Value → Heap → List Loc → Prop) (hK : Back l R p e below s args y 3 W (fun P a' => a' = (.ref a :: argsL).toArray ∧ P.U.heap = h ∧ P.cells + ce ≤ R.cells ∧ P.slots + sl ≤ R.slots) (fun P _ v B => ∃ L, Q v B.U.heap L ∧ B.locs = P.locs ++ L ∧ B.cells = P.cells + ce ∧ B.slots = P.slots + sl))
    {ps : List FieldType} {r : Option FieldType} (hpd : parseMethodDescriptor y.desc = some ⟨ps, r⟩) (hlen : argsL.length = ps.length) (hst : st = argsL.reverse ++ .ref a :: rest) (hW : (rest.map fun v => v.category).sum = W) (hd : decode c.code pc = .ok (.invokespecial index, 3)) (hp : pc + 3 = pc') (k : ∀ v T' L, Stand p l e R s m args below meth c T' (locs ++ L) (cells + ce) (slots + sl) → Q v T'.heap L → own_Ends p e below Φ (T'.setTop (mkF m pc' Ls (v.toList ++ rest)))) : own_Ends p e below Φ (T.setTop (mkF m pc Ls st)) := by
  subst hp
  obtain ⟨v, _, ⟨T', L', k', n'⟩, -, X', ⟨Lc, hQ, e1, e2, e3⟩, st'⟩ :=  X.specialBack hx (y := y) hy1 hown (mvT hZ w1) (mvT hZ w2) (mvT hZ w4) hy hK (g := mkF m pc Ls st) rfl hsize (Steps.refl _) (a := a) (argsL := argsL) (rest := rest) (lenOf hpd hlen) hst (by rw [← hW]; show 2 * 0 + _ ≤ _; omega) hd (fun _ _ => ⟨rfl, eT, hc, hs⟩)
  dsimp only [Pt.U, Pt.locs, Pt.cells, Pt.slots] at X' e1 e2 e3 st' hQ
  subst e1 e2 e3
  exact own_thru st' (k v T' Lc X' hQ)
theorem own_virtualB (X : Stand p l e R s m args below meth c T locs cells slots) (hx : p.tables.exec = Jvm.exec) (hZ : Z.Warmed39 s.vm) {own C : String} {index : Nat} {y z : MethodName} (hown : s.vm.findClass own = some m.cls) (w1 : (Jvm.Cond.methodLink own index y).before a0 Z = true) (w2 : (Jvm.Cond.declares y).before a0 Z = true) (hnf : NotFace s y) (w3 : (Jvm.Cond.selects C y z).before a0 Z = true) (w4 : (Jvm.Cond.instanceMethod z).before a0 Z = true) (hy : y.cls ≠ "java/lang/invoke/MethodHandle" ∧ y.cls ≠ "java/lang/invoke/VarHandle") {ce sl : Nat} (eT : T.heap = h) {W : Nat} (hc : cells + ce ≤ R.cells) (hs : slots + sl ≤ R.slots) {pc pc' : Nat} {Ls : Array Slot} (argsL rest : List Value) {st : List Value} (hsize : Ls.size = c.maxLocals) {a : Addr} (E : Exa Z h a C) (Q : Option Value → Heap → List Loc → Prop) (hK : Back l R p e below s args z 3 W (fun P a' => a' = (.ref a :: argsL).toArray ∧ P.U.heap = h ∧ P.cells + ce ≤ R.cells ∧ P.slots + sl ≤ R.slots) (fun P _ v B => ∃ L, Q v B.U.heap L ∧ B.locs = P.locs ++ L ∧ B.cells = P.cells + ce ∧ B.slots = P.slots + sl))
    {ps : List FieldType} {r : Option FieldType} (hpd : parseMethodDescriptor y.desc = some ⟨ps, r⟩) (hlen : argsL.length = ps.length) (hst : st = argsL.reverse ++ .ref a :: rest) (hW : (rest.map fun v => v.category).sum = W) (hd : decode c.code pc = .ok (.invokevirtual index, 3)) (hp : pc + 3 = pc') (k : ∀ v T' L, Stand p l e R s m args below meth c T' (locs ++ L) (cells + ce) (slots + sl) → Q v T'.heap L → own_Ends p e below Φ (T'.setTop (mkF m pc' Ls (v.toList ++ rest)))) : own_Ends p e below Φ (T.setTop (mkF m pc Ls st)) := by
  subst hp
  obtain ⟨cq, kq, q1, q2, q3⟩ := isOf hZ eT E
  obtain ⟨v, _, ⟨T', L', k', n'⟩, -, X', ⟨Lc, hQ, e1, e2, e3⟩, st'⟩ :=  X.virtualBack hx (y := y) (z := z) hown (mvT hZ w1) (mvT hZ w2) hnf (mvT hZ w3) (mvT hZ w4) hy hK q1 q3 (g := mkF m pc Ls st) rfl hsize (Steps.refl _) (argsL := argsL) (rest := rest) (lenOf hpd hlen) hst (by rw [← hW]; show 2 * 0 + _ ≤ _; omega) hd (fun _ _ => ⟨rfl, eT, hc, hs⟩)
  dsimp only [Pt.U, Pt.locs, Pt.cells, Pt.slots] at X' e1 e2 e3 st' hQ
  subst e1 e2 e3
  exact own_thru st' (k v T' Lc X' hQ)
theorem own_iface (X : Stand p l e R s m args below meth c T locs cells slots) (hx : p.tables.exec = Jvm.exec) (hZ : Z.Warmed39 s.vm) {own C : String} {index count : Nat} {xi y : MethodName} {bytes : ByteArray} {maxL : Nat} {ret : Option FieldType} {rm : Room} {Q : Option Value → Heap → List Loc → Prop} (hown : s.vm.findClass own = some m.cls) (w1 : (Jvm.Cond.methodLink own index xi).before a0 Z = true) (w2 : (Jvm.Cond.declares xi).before a0 Z = true) (wf : (Jvm.Cond.interfaceMethod xi.cls xi.cls xi.name xi.desc).before args s = true) (w3 : (Jvm.Cond.selects C xi y).before a0 Z = true) (w4 : (Jvm.Cond.instanceMethod y).before a0 Z = true) (wp : (Jvm.Cond.publicMethod y).before a0 Z = true) (wu : (Jvm.Cond.unhidden C xi.name xi.desc).before a0 Z = true) (wc : (Jvm.Cond.castable C xi.cls).before a0 Z = true) (w5 : (Jvm.Cond.initialized y.cls).before a0 Z = true) (w6 : (Jvm.Cond.code y bytes maxL ret).before a0 Z = true) (hy : xi.cls ≠ "java/lang/invoke/MethodHandle" ∧ xi.cls ≠ "java/lang/invoke/VarHandle") (eT : T.heap = h) (hf : rm.frames + 1 ≤ R.frames) {W : Nat} (hl : W + (maxL + 11) + rm.locals ≤ R.locals) (hc : cells + rm.cells ≤ R.cells) (hs : slots + rm.slots ≤ R.slots) {pc pc' : Nat} {Ls : Array Slot} (argsL rest : List Value) {st : List Value} (hsize : Ls.size = c.maxLocals) {a : Addr} (E : Exa Z h a C) (hM : own_Met l y bytes maxL ret rm Z (.ref a :: argsL).toArray h Q)
    {ps : List FieldType} {r : Option FieldType} (hpd : parseMethodDescriptor xi.desc = some ⟨ps, r⟩) (hlen : argsL.length = ps.length) (hst : st = argsL.reverse ++ .ref a :: rest) (hW : (rest.map fun v => v.category).sum = W) (hd : decode c.code pc = .ok (.invokeinterface index count, 5)) (hp : pc + 5 = pc') (k : ∀ v T' L, Stand p l e R s m args below meth c T' (locs ++ L) (cells + rm.cells) (slots + rm.slots) → Q v T'.heap L → own_Ends p e below Φ (T'.setTop (mkF m pc' Ls (v.toList ++ rest)))) : own_Ends p e below Φ (T.setTop (mkF m pc Ls st)) := by
  subst hp
  obtain ⟨cq, kq, q1, q2, q3⟩ := isOf hZ eT E
  obtain ⟨v, _, ⟨T', L', k', n'⟩, -, X', ⟨Lc, hQ, e1, e2, e3⟩, st'⟩ :=  X.interfaceBack hx (xi := xi) (y := y) hown (mvT hZ w1) (mvT hZ w2) wf (mvT hZ w3) (mvT hZ w4) (mvT hZ wp) (mvT hZ wu) (mvT hZ wc) hy (backOf (W := W) (hM []) hZ w6 w5 hf hl) q1 q2 q3 (g := mkF m pc Ls st) rfl hsize (Steps.refl _) (argsL := argsL) (rest := rest) (lenOf hpd hlen) hst (by rw [← hW]; show 2 * 0 + _ ≤ _; omega) hd (fun _ _ => ⟨rfl, eT, hc, hs⟩)
  dsimp only [Pt.U, Pt.locs, Pt.cells, Pt.slots] at X' e1 e2 e3 st' hQ
  subst e1 e2 e3
  exact own_thru st' (k v T' Lc X' hQ)
theorem own_insK {h' : Heap} {a : Addr} {C : String} {b : Bool} {ws : List Addr} (F : Ins Z h a C b) (K : Keep h h' ws) : Ins Z h' a C b := by
  obtain ⟨cell, cT, h1, h2, h3⟩ := F
  obtain ⟨c', q, r1, r2, -⟩ := K.2.2 a cell h1
  exact ⟨c', cT, q, h2, by rw [r1, r2]; exact h3⟩
end OwnKitB
section OwnKitA
variable {p : Program} {l : Launch} {e : Env} {R : Room} {s : State} {m : MethodId} {args : Array Value} {below : List Frame} {meth : Method} {c : Code} {T : State} {locs : List Loc} {cells slots : Nat} {Z : State} {a0 : Array Value} {h : Heap} {Φ : Outcome → State → Prop}
theorem own_newP (X : Stand p l e R s m args below meth c T locs cells slots) (hx : p.tables.exec = Jvm.exec) (hZ : Z.Warmed39 s.vm) {aty : ArrayType} (w : (Jvm.Cond.arrayClass (newarray.typeOf aty)).before a0 Z = true) (eT : T.heap = h) {pc pc' : Nat} {Ls : Array Slot} {rest : List Value} {n : Int32} (hd : decode c.code pc = .ok (.newarray aty, 2)) (hn : ¬ n < 0) (cap : Nat) (hcap : n.toNatClampNeg ≤ cap) (hb : cap * 8 ≤ 536870912) (hc : cells + 1 ≤ R.cells) (hl : slots + cap ≤ R.slots) (hp : pc + 2 = pc')
    (k : ∀ T' h' b kk, Stand p l e R s m args below meth c T' locs (cells + 1) (slots + cap) → T'.heap = h' → b = h.size → Ext h h' → Arv Z h' b kk (newarray.typeOf aty) n [] (defaultValue (newarray.typeOf aty)) → own_Ends p e below Φ (T'.setTop (mkF m pc' Ls (.ref b :: rest)))) : own_Ends p e below Φ (T.setTop (mkF m pc Ls (.int n :: rest))) := by
  subst hp; obtain ⟨T', h', cA, X', e', E', A', st⟩ := newP X hx hZ w eT (g := mkF m pc Ls (.int n :: rest)) rfl hd rfl hn hcap hb hc hl
  exact own_via st (k T' h' _ cA X' e' rfl E' (Arv.new A' hn))
theorem own_stC (X : Stand p l e R s m args below meth c T locs cells slots) (hx : p.tables.exec = Jvm.exec) (hZ : Z.Warmed39 s.vm) (eT : T.heap = h) {a : Addr} {kk : ClassId} {z : Int32} {vs : List Value} {dv : Value} (A : Arv Z h a kk .char z vs dv) {j : Int32} {x : Int32} (hj : ¬ j < 0 ∧ j < z) (i : Nat) (hi : j.toNatClampNeg = i) (hlen : i < vs.length) (hn : nar .char x = x) {n0 : Nat} (N : Fr n0 locs) (g : n0 ≤ a) {pc pc' : Nat} {Ls : Array Slot} {rest : List Value} (hd : decode c.code pc = .ok (.castore, 1)) (hp : pc + 1 = pc')
    (k : ∀ T' h', Stand p l e R s m args below meth c T' (locs ++ [⟨a, j.toNatClampNeg⟩]) cells slots → T'.heap = h' → Wr h h' a j.toNatClampNeg (.int x) → Fr n0 (locs ++ [⟨a, j.toNatClampNeg⟩]) → Arv Z h' a kk .char z (vs.set i (.int x)) dv → own_Ends p e below Φ (T'.setTop (mkF m pc' Ls rest))) : own_Ends p e below Φ (T.setTop (mkF m pc Ls (.int x :: .int j :: .ref a :: rest))) := by
  subst hp; obtain ⟨cl, Ar, q, S, Nn, H, G⟩ := A
  obtain ⟨T', h', X', e', W', st⟩ := Jvm.RoadKit.stC X hx hZ eT Ar (j := j) (x := x) (inb_of S hj) (g := mkF m pc Ls (.int x :: .int j :: .ref a :: rest)) rfl rfl hd
  have W' : Wr h h' a j.toNatClampNeg (.int (nar .char x)) := W'
  have hf := fits_nar_char x
  rw [hn] at W' hf
  exact own_via st (k T' h' X' e' W' (Fr.snoc X' N g) (Arv.set Ar q S Nn H G hf W' i hi hlen))
theorem own_stI (X : Stand p l e R s m args below meth c T locs cells slots) (hx : p.tables.exec = Jvm.exec) (hZ : Z.Warmed39 s.vm) (eT : T.heap = h) {a : Addr} {kk : ClassId} {z : Int32} {vs : List Value} {dv : Value} (A : Arv Z h a kk .int z vs dv) {j : Int32} {x : Int32} (hj : ¬ j < 0 ∧ j < z) (i : Nat) (hi : j.toNatClampNeg = i) (hlen : i < vs.length) {n0 : Nat} (N : Fr n0 locs) (g : n0 ≤ a) {pc pc' : Nat} {Ls : Array Slot} {rest : List Value} (hd : decode c.code pc = .ok (.iastore, 1)) (hp : pc + 1 = pc')
    (k : ∀ T' h', Stand p l e R s m args below meth c T' (locs ++ [⟨a, j.toNatClampNeg⟩]) cells slots → T'.heap = h' → Wr h h' a j.toNatClampNeg (.int x) → Fr n0 (locs ++ [⟨a, j.toNatClampNeg⟩]) → Arv Z h' a kk .int z (vs.set i (.int x)) dv → own_Ends p e below Φ (T'.setTop (mkF m pc' Ls rest))) : own_Ends p e below Φ (T.setTop (mkF m pc Ls (.int x :: .int j :: .ref a :: rest))) := by
  subst hp; obtain ⟨cl, Ar, q, S, Nn, H, G⟩ := A
  obtain ⟨T', h', X', e', W', st⟩ := Jvm.RoadKit.stI X hx hZ eT Ar (j := j) (x := x) (inb_of S hj) (g := mkF m pc Ls (.int x :: .int j :: .ref a :: rest)) rfl rfl hd
  skip
  exact own_via st (k T' h' X' e' W' (Fr.snoc X' N g) (Arv.set Ar q S Nn H G rfl W' i hi hlen))
theorem own_stB (X : Stand p l e R s m args below meth c T locs cells slots) (hx : p.tables.exec = Jvm.exec) (hZ : Z.Warmed39 s.vm) (eT : T.heap = h) {a : Addr} {kk : ClassId} {z : Int32} {vs : List Value} {dv : Value} (A : Arv Z h a kk .byte z vs dv) {j : Int32} {x : Int32} (hj : ¬ j < 0 ∧ j < z) (i : Nat) (hi : j.toNatClampNeg = i) (hlen : i < vs.length) (hn : x.toInt8.toInt32 = x) {n0 : Nat} (N : Fr n0 locs) (g : n0 ≤ a) {pc pc' : Nat} {Ls : Array Slot} {rest : List Value} (hd : decode c.code pc = .ok (.bastore, 1)) (hp : pc + 1 = pc')
    (k : ∀ T' h', Stand p l e R s m args below meth c T' (locs ++ [⟨a, j.toNatClampNeg⟩]) cells slots → T'.heap = h' → Wr h h' a j.toNatClampNeg (.int x) → Fr n0 (locs ++ [⟨a, j.toNatClampNeg⟩]) → Arv Z h' a kk .byte z (vs.set i (.int x)) dv → own_Ends p e below Φ (T'.setTop (mkF m pc' Ls rest))) : own_Ends p e below Φ (T.setTop (mkF m pc Ls (.int x :: .int j :: .ref a :: rest))) := by
  subst hp; obtain ⟨cl, Ar, q, S, Nn, H, G⟩ := A
  obtain ⟨T', h', X', e', W', st⟩ := Jvm.RoadKit.stB X hx hZ eT Ar (j := j) (x := x) (inb_of S hj) (g := mkF m pc Ls (.int x :: .int j :: .ref a :: rest)) rfl rfl hd
  have W' : Wr h h' a j.toNatClampNeg (.int x.toInt8.toInt32) := W'
  have hf := fits_nar_byte x
  rw [hn] at W' hf
  exact own_via st (k T' h' X' e' W' (Fr.snoc X' N g) (Arv.set Ar q S Nn H G hf W' i hi hlen))
theorem own_stR (X : Stand p l e R s m args below meth c T locs cells slots) (hx : p.tables.exec = Jvm.exec) (hZ : Z.Warmed39 s.vm) (eT : T.heap = h) {a : Addr} {kk : ClassId} {z : Int32} {ty : FieldType} {vs : List Value} {dv : Value} (A : Arv Z h a kk ty z vs dv) (hty : ty.isReference = true) {j : Int32} {v : Value} (hv : fits ty v = true) (F : Sto Z h a v) (hj : ¬ j < 0 ∧ j < z) (i : Nat) (hi : j.toNatClampNeg = i) (hlen : i < vs.length) {n0 : Nat} (N : Fr n0 locs) (g : n0 ≤ a) {pc pc' : Nat} {Ls : Array Slot} {rest : List Value} (hd : decode c.code pc = .ok (.aastore, 1)) (hp : pc + 1 = pc')
    (k : ∀ T' h', Stand p l e R s m args below meth c T' (locs ++ [⟨a, j.toNatClampNeg⟩]) cells slots → T'.heap = h' → Wr h h' a j.toNatClampNeg v → Fr n0 (locs ++ [⟨a, j.toNatClampNeg⟩]) → Arv Z h' a kk ty z (vs.set i v) dv → own_Ends p e below Φ (T'.setTop (mkF m pc' Ls rest))) : own_Ends p e below Φ (T.setTop (mkF m pc Ls (v :: .int j :: .ref a :: rest))) := by
  subst hp; obtain ⟨cl, Ar, q, S, Nn, H, G⟩ := A
  obtain ⟨T', h', X', e', W', st⟩ := Jvm.RoadKit.stR X hx hZ eT Ar (j := j) (inb_of S hj) hty F (g := mkF m pc Ls (v :: .int j :: .ref a :: rest)) rfl rfl hd
  exact own_via st (k T' h' X' e' W' (Fr.snoc X' N g) (Arv.set Ar q S Nn H G hv W' i hi hlen))
theorem own_newR (X : Stand p l e R s m args below meth c T locs cells slots) (hx : p.tables.exec = Jvm.exec) (hZ : Z.Warmed39 s.vm) {own C : String} {index : Nat} (hown : s.vm.findClass own = some m.cls) (w1 : (Jvm.Cond.classLink own index C).before a0 Z = true) (w2 : (Jvm.Cond.arrayOver (.object C)).before a0 Z = true) (eT : T.heap = h) {pc pc' : Nat} {Ls : Array Slot} {rest : List Value} {n : Int32} (hd : decode c.code pc = .ok (.anewarray index, 3)) (hn : ¬ n < 0) (cap : Nat) (hcap : n.toNatClampNeg ≤ cap) (hb : cap * 8 ≤ 536870912) (hc : cells + 1 ≤ R.cells) (hl : slots + cap ≤ R.slots) (hp : pc + 3 = pc')
    (k : ∀ T' h' b kk, Stand p l e R s m args below meth c T' locs (cells + 1) (slots + cap) → T'.heap = h' → b = h.size → Ext h h' → Arv Z h' b kk (.object C) n [] .null → Ovr Z kk C → own_Ends p e below Φ (T'.setTop (mkF m pc' Ls (.ref b :: rest)))) : own_Ends p e below Φ (T.setTop (mkF m pc Ls (.int n :: rest))) := by
  subst hp; obtain ⟨T', h', cA, X', e', E', A', O', st⟩ := newR X hx hZ hown w1 w2 eT (g := mkF m pc Ls (.int n :: rest)) rfl hd rfl hn hcap hb hc hl
  exact own_via st (k T' h' _ cA X' e' rfl E' (Arv.new A' hn) O')
theorem own_arraylength (X : Stand p l e R s m args below meth c T locs cells slots) (hx : p.tables.exec = Jvm.exec) (hZ : Z.Warmed39 s.vm) (eT : T.heap = h) {a : Addr} {kk : ClassId} {z : Int32} {ty : FieldType} {vs : List Value} {dv : Value} (A : Arv Z h a kk ty z vs dv) {pc pc' : Nat} {Ls : Array Slot} {rest : List Value} (hd : decode c.code pc = .ok (.arraylength, 1)) (hp : pc + 1 = pc') (k : own_Ends p e below Φ (T.setTop (mkF m pc' Ls (.int z :: rest)))) : own_Ends p e below Φ (T.setTop (mkF m pc Ls (.ref a :: rest))) := by
  subst hp; obtain ⟨cl, Ar, q, S, Nn, H, G⟩ := A
  refine own_via (X.arraylength hx (by rw [eT]; exact Ar.1) (State.isArrayOf_alike hZ.alike Ar.2.1) (g := mkF m pc Ls (.ref a :: rest)) rfl rfl hd) ?_
  rw [len_of S Nn]; exact k
theorem own_iaload (X : Stand p l e R s m args below meth c T locs cells slots) (hx : p.tables.exec = Jvm.exec) (hZ : Z.Warmed39 s.vm) (eT : T.heap = h) {a : Addr} {kk : ClassId} {z : Int32} {vs : List Value} {dv : Value} (A : Arv Z h a kk .int z vs dv) {j : Int32} {x : Int32} (hj : ¬ j < 0 ∧ j < z) (hv : vs.getD j.toNatClampNeg dv = .int x) {pc pc' : Nat} {Ls : Array Slot} {rest : List Value} (hd : decode c.code pc = .ok (.iaload, 1)) (hp : pc + 1 = pc') (k : own_Ends p e below Φ (T.setTop (mkF m pc' Ls (.int x :: rest)))) : own_Ends p e below Φ (T.setTop (mkF m pc Ls (.int j :: .ref a :: rest))) := by
  subst hp; obtain ⟨cl, Ar, q, S, Nn, H, G⟩ := A
  exact own_via (X.iaload hx (j := j) (v := .int x) (by rw [eT]; exact Ar.1) (State.isArrayOf_alike hZ.alike Ar.2.1) Ar.2.2 (inb_of S hj) (H.at (inb_of S hj) hv) (g := mkF m pc Ls (.int j :: .ref a :: rest)) rfl rfl hd) k
theorem own_caload (X : Stand p l e R s m args below meth c T locs cells slots) (hx : p.tables.exec = Jvm.exec) (hZ : Z.Warmed39 s.vm) (eT : T.heap = h) {a : Addr} {kk : ClassId} {z : Int32} {vs : List Value} {dv : Value} (A : Arv Z h a kk .char z vs dv) {j : Int32} {x : Int32} (hj : ¬ j < 0 ∧ j < z) (hv : vs.getD j.toNatClampNeg dv = .int x) {pc pc' : Nat} {Ls : Array Slot} {rest : List Value} (hd : decode c.code pc = .ok (.caload, 1)) (hp : pc + 1 = pc') (k : own_Ends p e below Φ (T.setTop (mkF m pc' Ls (.int x :: rest)))) : own_Ends p e below Φ (T.setTop (mkF m pc Ls (.int j :: .ref a :: rest))) := by
  subst hp; obtain ⟨cl, Ar, q, S, Nn, H, G⟩ := A
  exact own_via (X.caload hx (j := j) (v := .int x) (by rw [eT]; exact Ar.1) (State.isArrayOf_alike hZ.alike Ar.2.1) Ar.2.2 (inb_of S hj) (H.at (inb_of S hj) hv) (g := mkF m pc Ls (.int j :: .ref a :: rest)) rfl rfl hd) k
theorem own_baloadBytes (X : Stand p l e R s m args below meth c T locs cells slots) (hx : p.tables.exec = Jvm.exec) (hZ : Z.Warmed39 s.vm) (eT : T.heap = h) {a : Addr} {kk : ClassId} {z : Int32} {vs : List Value} {dv : Value} (A : Arv Z h a kk .byte z vs dv) {j : Int32} {x : Int32} (hj : ¬ j < 0 ∧ j < z) (hv : vs.getD j.toNatClampNeg dv = .int x) {pc pc' : Nat} {Ls : Array Slot} {rest : List Value} (hd : decode c.code pc = .ok (.baload, 1)) (hp : pc + 1 = pc') (k : own_Ends p e below Φ (T.setTop (mkF m pc' Ls (.int x :: rest)))) : own_Ends p e below Φ (T.setTop (mkF m pc Ls (.int j :: .ref a :: rest))) := by
  subst hp; obtain ⟨cl, Ar, q, S, Nn, H, G⟩ := A
  exact own_via (X.baloadBytes hx (j := j) (v := .int x) (by rw [eT]; exact Ar.1) (State.isArrayOf_alike hZ.alike Ar.2.1) Ar.2.2 (inb_of S hj) (H.at (inb_of S hj) hv) (g := mkF m pc Ls (.int j :: .ref a :: rest)) rfl rfl hd) k
theorem own_aaload (X : Stand p l e R s m args below meth c T locs cells slots) (hx : p.tables.exec = Jvm.exec) (hZ : Z.Warmed39 s.vm) (eT : T.heap = h) {a : Addr} {kk : ClassId} {z : Int32} {ty : FieldType} (hty : ty.isReference = true) {vs : List Value} {dv : Value} (A : Arv Z h a kk ty z vs dv) {j : Int32} {v : Value} (hj : ¬ j < 0 ∧ j < z) (hv : vs.getD j.toNatClampNeg dv = v) {pc pc' : Nat} {Ls : Array Slot} {rest : List Value} (hd : decode c.code pc = .ok (.aaload, 1)) (hp : pc + 1 = pc') (k : own_Ends p e below Φ (T.setTop (mkF m pc' Ls (v :: rest)))) : own_Ends p e below Φ (T.setTop (mkF m pc Ls (.int j :: .ref a :: rest))) := by
  subst hp; obtain ⟨cl, Ar, q, S, Nn, H, G⟩ := A
  exact own_via (X.aaload hx (j := j) (v := v) (by rw [eT]; exact Ar.1) (State.isArrayOf_alike hZ.alike Ar.2.1) hty Ar.2.2 (inb_of S hj) (H.at (inb_of S hj) hv) (g := mkF m pc Ls (.int j :: .ref a :: rest)) rfl rfl hd) k
theorem own_castY (X : Stand p l e R s m args below meth c T locs cells slots) (hx : p.tables.exec = Jvm.exec) (hZ : Z.Warmed39 s.vm) {own C : String} {index : Nat} (hown : s.vm.findClass own = some m.cls) (w : (Jvm.Cond.classLink own index C).before a0 Z = true) (eT : T.heap = h) {a : Addr} (F : Ins Z h a C true) {pc pc' : Nat} {Ls : Array Slot} {rest : List Value} (hd : decode c.code pc = .ok (.checkcast index, 3)) (hp : pc + 3 = pc') (k : ∀ T', Stand p l e R s m args below meth c T' locs cells slots → T'.heap = h → own_Ends p e below Φ (T'.setTop (mkF m pc' Ls (.ref a :: rest)))) : own_Ends p e below Φ (T.setTop (mkF m pc Ls (.ref a :: rest))) := by
  subst hp; obtain ⟨T', X', e', st⟩ := castY X hx hZ hown w eT F (g := mkF m pc Ls (.ref a :: rest)) rfl rfl hd
  exact own_via st (k T' X' e')
theorem own_castN (X : Stand p l e R s m args below meth c T locs cells slots) (hx : p.tables.exec = Jvm.exec) {index : Nat} {pc pc' : Nat} {Ls : Array Slot} {rest : List Value} (hd : decode c.code pc = .ok (.checkcast index, 3)) (hp : pc + 3 = pc') (k : own_Ends p e below Φ (T.setTop (mkF m pc' Ls (.null :: rest)))) : own_Ends p e below Φ (T.setTop (mkF m pc Ls (.null :: rest))) := by
  subst hp; exact own_via (fun _ q => X.checkcastNull hx (g := mkF m pc Ls (.null :: rest)) rfl rfl hd _ q) k
theorem own_instY (X : Stand p l e R s m args below meth c T locs cells slots) (hx : p.tables.exec = Jvm.exec) (hZ : Z.Warmed39 s.vm) {own C : String} {index : Nat} (hown : s.vm.findClass own = some m.cls) (w : (Jvm.Cond.classLink own index C).before a0 Z = true) (eT : T.heap = h) {a : Addr} (F : Ins Z h a C true) {pc pc' : Nat} {Ls : Array Slot} {rest : List Value} (hd : decode c.code pc = .ok (.instanceof index, 3)) (hp : pc + 3 = pc') (k : ∀ T', Stand p l e R s m args below meth c T' locs cells slots → T'.heap = h → own_Ends p e below Φ (T'.setTop (mkF m pc' Ls (.int 1 :: rest)))) : own_Ends p e below Φ (T.setTop (mkF m pc Ls (.ref a :: rest))) := by
  subst hp; obtain ⟨T', X', e', st⟩ := instY X hx hZ hown w eT F (g := mkF m pc Ls (.ref a :: rest)) rfl rfl hd
  exact own_via st (k T' X' e')
theorem own_instNull (X : Stand p l e R s m args below meth c T locs cells slots) (hx : p.tables.exec = Jvm.exec) {index : Nat} {pc pc' : Nat} {Ls : Array Slot} {rest : List Value} (hd : decode c.code pc = .ok (.instanceof index, 3)) (hp : pc + 3 = pc') (k : own_Ends p e below Φ (T.setTop (mkF m pc' Ls (.int 0 :: rest)))) : own_Ends p e below Φ (T.setTop (mkF m pc Ls (.null :: rest))) := by
  subst hp; exact own_via (fun _ q => X.instanceofNull hx (g := mkF m pc Ls (.null :: rest)) rfl rfl hd _ q) k
theorem own_instN (X : Stand p l e R s m args below meth c T locs cells slots) (hx : p.tables.exec = Jvm.exec) (hZ : Z.Warmed39 s.vm) {own K C : String} {index : Nat} (hown : s.vm.findClass own = some m.cls) (w : (Jvm.Cond.classLink own index K).before a0 Z = true) (eT : T.heap = h) {a : Addr} (E : Exa Z h a C) (F : ∃ c t, Z.vm.findClass C = some c ∧ Z.vm.findClass K = some t ∧ Z.vm.assignable c t = false) {pc pc' : Nat} {Ls : Array Slot} {rest : List Value} (hd : decode c.code pc = .ok (.instanceof index, 3)) (hp : pc + 3 = pc') (k : ∀ T', Stand p l e R s m args below meth c T' locs cells slots → T'.heap = h → own_Ends p e below Φ (T'.setTop (mkF m pc' Ls (.int 0 :: rest)))) : own_Ends p e below Φ (T.setTop (mkF m pc Ls (.ref a :: rest))) := by
  subst hp; obtain ⟨T', X', e', st⟩ := instNo X hx hZ hown w eT E F (g := mkF m pc Ls (.ref a :: rest)) rfl rfl hd
  exact own_via st (k T' X' e')
theorem own_sto {a y : Addr} {kk : ClassId} {ty : FieldType} {z : Int32} {vs : List Value} {dv : Value} {C : String} (A : Arv Z h a kk ty z vs dv) (O : Ovr Z kk C) (I : Ins Z h y C true) : Sto Z h a (.ref y) := by
  obtain ⟨cl, Ar, q, -⟩ := A
  exact Sto.ofV Ar q O I
theorem own_ldcDouble (X : Stand p l e R s m args below meth c T locs cells slots) (hx : p.tables.exec = Jvm.exec) (hZ : Z.Warmed39 s.vm) {own : String} {index : Nat} {v : UInt64} (hown : s.vm.findClass own = some m.cls) (w : (Jvm.Cond.constantDouble own index v).before a0 Z = true) {pc pc' : Nat} {Ls : Array Slot} {rest : List Value} (hd : decode c.code pc = .ok (.ldc2_w index, 3)) (hp : pc + 3 = pc') (h : own_Ends p e below Φ (T.setTop (mkF m pc' Ls (.double v :: rest)))) : own_Ends p e below Φ (T.setTop (mkF m pc Ls rest)) := by
  subst hp; exact own_via (X.ldc2DoubleC hx hown (mvT hZ w) (g := mkF m pc Ls rest) rfl hd) h
theorem own_dcmp (X : Stand p l e R s m args below meth c T locs cells slots) (hx : p.tables.exec = Jvm.exec) {pc pc' : Nat} {Ls : Array Slot} {rest : List Value} {o : CmpOp} {x y : UInt64} (v : Int32) (hd : decode c.code pc = .ok (.dcmp o, 1)) (hv : cmpValue (FP.dcmp x y) o = v) (hp : pc + 1 = pc') (h : own_Ends p e below Φ (T.setTop (mkF m pc' Ls (.int v :: rest)))) : own_Ends p e below Φ (T.setTop (mkF m pc Ls (.double y :: .double x :: rest))) := by
  subst hp; exact own_via (fun _ k => XS.dcmpS X.here hx (g := mkF m pc Ls (.double y :: .double x :: rest)) rfl hd rfl hv k) h
theorem own_dload (X : Stand p l e R s m args below meth c T locs cells slots) (hx : p.tables.exec = Jvm.exec) {pc pc' : Nat} {Ls : Array Slot} {rest : List Value} {k : Nat} {v : UInt64} (hd : decode c.code pc = .ok (.dload k, 2)) (hl : Ls[k]? = some (.val (.double v))) (hp : pc + 2 = pc') (h : own_Ends p e below Φ (T.setTop (mkF m pc' Ls (.double v :: rest)))) : own_Ends p e below Φ (T.setTop (mkF m pc Ls rest)) := by
  subst hp; exact own_via (fun _ k => XS.dload X.here hx (g := mkF m pc Ls rest) rfl hd hl k) h
theorem own_dloadN (X : Stand p l e R s m args below meth c T locs cells slots) (hx : p.tables.exec = Jvm.exec) {pc pc' : Nat} {Ls : Array Slot} {rest : List Value} {k : Fin 4} {v : UInt64} (hd : decode c.code pc = .ok (.dload_n k, 1)) (hl : Ls[k.val]? = some (.val (.double v))) (hp : pc + 1 = pc') (h : own_Ends p e below Φ (T.setTop (mkF m pc' Ls (.double v :: rest)))) : own_Ends p e below Φ (T.setTop (mkF m pc Ls rest)) := by
  subst hp; exact own_via (fun _ k => XS.dloadN X.here hx (g := mkF m pc Ls rest) rfl hd hl k) h
theorem own_dstore (X : Stand p l e R s m args below meth c T locs cells slots) (hx : p.tables.exec = Jvm.exec) {pc pc' : Nat} {Ls : Array Slot} {rest : List Value} {k : Nat} {v : UInt64} (Ls' : Array Slot) (hd : decode c.code pc = .ok (.dstore k, 2)) (hl : storeLocals Ls k (.double v) = some Ls') (hp : pc + 2 = pc') (h : own_Ends p e below Φ (T.setTop (mkF m pc' Ls' rest))) : own_Ends p e below Φ (T.setTop (mkF m pc Ls (.double v :: rest))) := by
  subst hp; exact own_via (fun _ k => XS.dstore X.here hx (g := mkF m pc Ls (.double v :: rest)) rfl hd rfl hl k) h
theorem own_dstoreN (X : Stand p l e R s m args below meth c T locs cells slots) (hx : p.tables.exec = Jvm.exec) {pc pc' : Nat} {Ls : Array Slot} {rest : List Value} {k : Fin 4} {v : UInt64} (Ls' : Array Slot) (hd : decode c.code pc = .ok (.dstore_n k, 1)) (hl : storeLocals Ls k.val (.double v) = some Ls') (hp : pc + 1 = pc') (h : own_Ends p e below Φ (T.setTop (mkF m pc' Ls' rest))) : own_Ends p e below Φ (T.setTop (mkF m pc Ls (.double v :: rest))) := by
  subst hp; exact own_via (fun _ k => XS.dstoreN X.here hx (g := mkF m pc Ls (.double v :: rest)) rfl hd rfl hl k) h
theorem own_ldcLong (X : Stand p l e R s m args below meth c T locs cells slots) (hx : p.tables.exec = Jvm.exec) (hZ : Z.Warmed39 s.vm) {own : String} {index : Nat} {v : Int64} (hown : s.vm.findClass own = some m.cls) (w : (Jvm.Cond.constantLong own index v).before a0 Z = true) {pc pc' : Nat} {Ls : Array Slot} {rest : List Value} (hd : decode c.code pc = .ok (.ldc2_w index, 3)) (hp : pc + 3 = pc') (h : own_Ends p e below Φ (T.setTop (mkF m pc' Ls (.long v :: rest)))) : own_Ends p e below Φ (T.setTop (mkF m pc Ls rest)) := by
  subst hp; exact own_via (X.ldc2Long hx hown (mvT hZ w) (g := mkF m pc Ls rest) rfl hd) h
end OwnKitA
section OwnStr
theorem own_c0 {P : Int32 → Prop} : ∀ c ∈ ([] : List Int32), P c := fun _ q => nomatch q
theorem own_c2 {P : Int32 → Prop} {c : Int32} {L : List Int32} (h : P c) (r : ∀ x ∈ L, P x) : ∀ x ∈ c :: L, P x := fun x q => (List.mem_cons.mp q).elim (fun e => e ▸ h) (r x)
theorem own_up {cs : List Int32} (h : ∀ c ∈ cs, ¬ c < 0 ∧ ¬ (255 : Int32) < c) : ∀ c ∈ cs, ¬ c < 0 ∧ ¬ (65535 : Int32) < c := fun c hc => ⟨(h c hc).1, fun q => (h c hc).2 (by rw [Int32.lt_iff_toInt_lt] at q ⊢; have e1 : (65535 : Int32).toInt = 65535 := rfl; have e2 : (255 : Int32).toInt = 255 := rfl; omega)⟩
theorem own_ch (x : Int32) : ¬ (x &&& (255 : Int32)).toUInt32.toUInt16.toUInt32.toInt32 < 0 ∧ ¬ (255 : Int32) < (x &&& (255 : Int32)).toUInt32.toUInt16.toUInt32.toInt32 := by
  rw [i2c_mask]
  have h := c_mask x 255 8 (by decide) (by decide)
  constructor
  · rw [Int32.lt_iff_toInt_lt, h]; have e : (0 : Int32).toInt = 0 := rfl; omega
  · rw [Int32.lt_iff_toInt_lt, h]; have e : (255 : Int32).toInt = 255 := rfl; omega
theorem own_narC {c : Int32} (h : ¬ c < 0 ∧ ¬ (255 : Int32) < c) : nar .char c = c := by
  obtain ⟨h1, h2⟩ := h
  rw [Int32.lt_iff_toInt_lt] at h1 h2
  have e0 : (0 : Int32).toInt = 0 := rfl
  have e1 : (255 : Int32).toInt = 255 := rfl
  have q := c_i2c c
  refine Int32.toInt_inj.mp ?_
  show c.toUInt32.toUInt16.toUInt32.toInt32.toInt = c.toInt
  omega
def own_Str (Z : State) (h : Heap) (a : Addr) (cs : List Int32) : Prop := ∃ (t : Addr) (kb : ClassId) (cd N : Int32) (vs : List Value), Exa Z h a "java/lang/String" ∧ Fld Z h a "java/lang/String" "value" "[B" (.ref t) ∧ Fld Z h a "java/lang/String" "coder" "B" (.int cd) ∧ Arv Z h t kb .byte N vs (.int 0) ∧ StrChars.Road.CodA cs cd N vs ∧ (∀ c ∈ cs, ¬ c < 0 ∧ ¬ (65535 : Int32) < c) ∧ cs.length ≤ 4000
theorem own_Str.ext {Z : State} {h h' : Heap} {a : Addr} {cs : List Int32} (F : own_Str Z h a cs) (E : Ext h h') : own_Str Z h' a cs := by
  obtain ⟨t, kb, cd, N, vs, h1, h2, h3, h4, h5⟩ := F
  exact ⟨t, kb, cd, N, vs, h1.ext E, h2.ext E, h3.ext E, h4.ext E, h5⟩
theorem own_Str.keep0 {Z : State} {h h' : Heap} {a : Addr} {cs : List Int32} (F : own_Str Z h a cs) (K : Keep h h' []) : own_Str Z h' a cs := by
  obtain ⟨t, kb, cd, N, vs, h1, h2, h3, h4, h5⟩ := F
  exact ⟨t, kb, cd, N, vs, h1.keep K, h2.keep K nin0, h3.keep K nin0, h4.keep K nin0, h5⟩
theorem own_safeNull {Z : State} {EL : List (String × Nat)} {vm : Vm} {h : Heap} {x : Addr} (hal : Z.vm.Alike vm) (E : Exa Z h x "java/lang/String") (F : Fld Z h x "java/lang/String" "value" "[B" .null) : Safe Z EL vm h x := fun B => by
  obtain ⟨p, -, u, a, -, q, -, G, rfl | rfl⟩ := B
  · have ha := (show h[q.sa]? = some q.sC from G.ha)
    obtain ⟨cell, cf, k, i, f, h1, h2, -, -, -, -, h7⟩ := F
    cases ha.symm.trans h1
    obtain ⟨cS, ⟨⟨-, -, -, ⟨c1, k1, i1, f1, -⟩, -, -, -, v1, -⟩, -⟩, -⟩ := G
    obtain ⟨k3, e3, -⟩ := State.fieldFound?_setVm (s := Z) hal h2
    have e4 := (show (Wst Z vm h).fieldFound? _ _ _ = _ from e3).symm.trans f1
    simp only [Option.some.injEq, Prod.mk.injEq] at e4
    rw [← e4.2.2.2, h7] at v1
    cases v1
  · obtain ⟨cell, k, e1, e2, e3, -, -⟩ := E
    cases (show h[q.sd]? = some q.SA from G.hd).symm.trans e1
    obtain ⟨cS, -, -, f, -⟩ := G
    have f' : vm.findClass "[B" = some q.SA.cls := f
    rw [hal.findClass] at f'
    obtain ⟨k1, q1, q2⟩ := Vm.findClass_spec f'
    obtain ⟨k2, q3, q4⟩ := Vm.findClass_spec e2
    cases q1.symm.trans q3
    exact absurd (q2.symm.trans q4) (by decide)
end OwnStr
theorem own_pd0 : parseMethodDescriptor "([CIILjava/lang/Void;)V" = some ⟨[(.array .char), .int, .int, (.object "java/lang/Void")], none⟩ := by decide +kernel
theorem own_pd1 : parseMethodDescriptor "(C)Z" = some ⟨[.char], some .boolean⟩ := by decide +kernel
theorem own_pd2 : parseMethodDescriptor "(C)[B" = some ⟨[.char], some (.array .byte)⟩ := by decide +kernel
theorem own_pd3 : parseMethodDescriptor "([BB)V" = some ⟨[(.array .byte), .byte], none⟩ := by decide +kernel
theorem own_pd4 : parseMethodDescriptor "([C)V" = some ⟨[(.array .char)], none⟩ := by decide +kernel
theorem own_pd5 : parseMethodDescriptor "(C)Ljava/lang/String;" = some ⟨[.char], some (.object "java/lang/String")⟩ := by decide +kernel
theorem own_pd6 : parseMethodDescriptor "(Ljava/lang/Object;)Ljava/lang/Object;" = some ⟨[(.object "java/lang/Object")], some (.object "java/lang/Object")⟩ := by decide +kernel
theorem own_pd7 : parseMethodDescriptor "(Ljava/lang/Object;)Z" = some ⟨[(.object "java/lang/Object")], some .boolean⟩ := by decide +kernel
theorem own_pd8 : parseMethodDescriptor "(ICC)Ljava/lang/String;" = some ⟨[.int, .char, .char], some (.object "java/lang/String")⟩ := by decide +kernel
theorem own_pd9 : parseMethodDescriptor "(Ljava/lang/String;Ljava/lang/String;)V" = some ⟨[(.object "java/lang/String"), (.object "java/lang/String")], none⟩ := by decide +kernel
theorem own_pd10 : parseMethodDescriptor "(ICCICC)Z" = some ⟨[.int, .char, .char, .int, .char, .char], some .boolean⟩ := by decide +kernel
theorem own_d_jdk_31_method_10_code_0 : decode jdk_31_method_10_code 0 = .ok (.aload_n 0, 1) := by decide +kernel
theorem own_d_jdk_31_method_10_code_1 : decode jdk_31_method_10_code 1 = .ok (.ifnonnull 11, 3) := by decide +kernel
theorem own_d_jdk_31_method_10_code_12 : decode jdk_31_method_10_code 12 = .ok (.aload_n 0, 1) := by decide +kernel
theorem own_d_jdk_31_method_10_code_13 : decode jdk_31_method_10_code 13 = .ok (.areturn, 1) := by decide +kernel
theorem own_pn_java_util_Objects : plainName "java/util/Objects" = true := by first | (simp [plainName, overriddenIn]; done) | decide +kernel
theorem own_d_jdk_42_method_149_code_0 : decode jdk_42_method_149_code 0 = .ok (.aload_n 0, 1) := by decide +kernel
theorem own_d_jdk_42_method_149_code_1 : decode jdk_42_method_149_code 1 = .ok (.invokespecial 1, 3) := by decide +kernel
theorem own_d_jdk_42_method_149_code_4 : decode jdk_42_method_149_code 4 = .ok (.iload_n 3, 1) := by decide +kernel
theorem own_d_jdk_42_method_149_code_5 : decode jdk_42_method_149_code 5 = .ok (.ifCond .ne 22, 3) := by decide +kernel
theorem own_d_jdk_42_method_149_code_8 : decode jdk_42_method_149_code 8 = .ok (.aload_n 0, 1) := by decide +kernel
theorem own_d_jdk_42_method_149_code_9 : decode jdk_42_method_149_code 9 = .ok (.ldc 7, 2) := by decide +kernel
theorem own_d_jdk_42_method_149_code_11 : decode jdk_42_method_149_code 11 = .ok (.getfield 9, 3) := by decide +kernel
theorem own_d_jdk_42_method_149_code_14 : decode jdk_42_method_149_code 14 = .ok (.putfield 9, 3) := by decide +kernel
theorem own_d_jdk_42_method_149_code_17 : decode jdk_42_method_149_code 17 = .ok (.aload_n 0, 1) := by decide +kernel
theorem own_d_jdk_42_method_149_code_18 : decode jdk_42_method_149_code 18 = .ok (.ldc 7, 2) := by decide +kernel
theorem own_d_jdk_42_method_149_code_20 : decode jdk_42_method_149_code 20 = .ok (.getfield 15, 3) := by decide +kernel
theorem own_d_jdk_42_method_149_code_23 : decode jdk_42_method_149_code 23 = .ok (.putfield 15, 3) := by decide +kernel
theorem own_d_jdk_42_method_149_code_26 : decode jdk_42_method_149_code 26 = .ok (.return_, 1) := by decide +kernel
theorem own_pn_java_lang_String : plainName "java/lang/String" = true := by first | (simp [plainName, overriddenIn]; done) | decide +kernel
theorem own_d_jdk_42_method_3_code_0 : decode jdk_42_method_3_code 0 = .ok (.aload_n 0, 1) := by decide +kernel
theorem own_d_jdk_42_method_3_code_1 : decode jdk_42_method_3_code 1 = .ok (.aload_n 1, 1) := by decide +kernel
theorem own_d_jdk_42_method_3_code_2 : decode jdk_42_method_3_code 2 = .ok (.iconst 0, 1) := by decide +kernel
theorem own_d_jdk_42_method_3_code_3 : decode jdk_42_method_3_code 3 = .ok (.aload_n 1, 1) := by decide +kernel
theorem own_d_jdk_42_method_3_code_4 : decode jdk_42_method_3_code 4 = .ok (.arraylength, 1) := by decide +kernel
theorem own_d_jdk_42_method_3_code_5 : decode jdk_42_method_3_code 5 = .ok (.aconst_null, 1) := by decide +kernel
theorem own_d_jdk_42_method_3_code_6 : decode jdk_42_method_3_code 6 = .ok (.invokespecial 27, 3) := by decide +kernel
theorem own_d_jdk_42_method_3_code_9 : decode jdk_42_method_3_code 9 = .ok (.return_, 1) := by decide +kernel
theorem own_d_jdk_43_method_3_code_0 : decode jdk_43_method_3_code 0 = .ok (.iload_n 0, 1) := by decide +kernel
theorem own_d_jdk_43_method_3_code_1 : decode jdk_43_method_3_code 1 = .ok (.sipush 255, 3) := by decide +kernel
theorem own_d_jdk_43_method_3_code_4 : decode jdk_43_method_3_code 4 = .ok (.if_icmp .gt 7, 3) := by decide +kernel
theorem own_d_jdk_43_method_3_code_7 : decode jdk_43_method_3_code 7 = .ok (.iconst 1, 1) := by decide +kernel
theorem own_d_jdk_43_method_3_code_8 : decode jdk_43_method_3_code 8 = .ok (.goto 4, 3) := by decide +kernel
theorem own_d_jdk_43_method_3_code_12 : decode jdk_43_method_3_code 12 = .ok (.ireturn, 1) := by decide +kernel
theorem own_pn_java_lang_StringLatin1 : plainName "java/lang/StringLatin1" = true := by first | (simp [plainName, overriddenIn]; done) | decide +kernel
theorem own_d_jdk_43_method_46_code_0 : decode jdk_43_method_46_code 0 = .ok (.iconst 1, 1) := by decide +kernel
theorem own_d_jdk_43_method_46_code_1 : decode jdk_43_method_46_code 1 = .ok (.newarray .byte, 2) := by decide +kernel
theorem own_d_jdk_43_method_46_code_3 : decode jdk_43_method_46_code 3 = .ok (.dup, 1) := by decide +kernel
theorem own_d_jdk_43_method_46_code_4 : decode jdk_43_method_46_code 4 = .ok (.iconst 0, 1) := by decide +kernel
theorem own_d_jdk_43_method_46_code_5 : decode jdk_43_method_46_code 5 = .ok (.iload_n 0, 1) := by decide +kernel
theorem own_d_jdk_43_method_46_code_6 : decode jdk_43_method_46_code 6 = .ok (.i2b, 1) := by decide +kernel
theorem own_d_jdk_43_method_46_code_7 : decode jdk_43_method_46_code 7 = .ok (.bastore, 1) := by decide +kernel
theorem own_d_jdk_43_method_46_code_8 : decode jdk_43_method_46_code 8 = .ok (.areturn, 1) := by decide +kernel
theorem own_d_jdk_42_method_151_code_0 : decode jdk_42_method_151_code 0 = .ok (.aload_n 0, 1) := by decide +kernel
theorem own_d_jdk_42_method_151_code_1 : decode jdk_42_method_151_code 1 = .ok (.invokespecial 1, 3) := by decide +kernel
theorem own_d_jdk_42_method_151_code_4 : decode jdk_42_method_151_code 4 = .ok (.aload_n 0, 1) := by decide +kernel
theorem own_d_jdk_42_method_151_code_5 : decode jdk_42_method_151_code 5 = .ok (.aload_n 1, 1) := by decide +kernel
theorem own_d_jdk_42_method_151_code_6 : decode jdk_42_method_151_code 6 = .ok (.putfield 9, 3) := by decide +kernel
theorem own_d_jdk_42_method_151_code_9 : decode jdk_42_method_151_code 9 = .ok (.aload_n 0, 1) := by decide +kernel
theorem own_d_jdk_42_method_151_code_10 : decode jdk_42_method_151_code 10 = .ok (.iload_n 2, 1) := by decide +kernel
theorem own_d_jdk_42_method_151_code_11 : decode jdk_42_method_151_code 11 = .ok (.putfield 15, 3) := by decide +kernel
theorem own_d_jdk_42_method_151_code_14 : decode jdk_42_method_151_code 14 = .ok (.return_, 1) := by decide +kernel
theorem own_d_jdk_42_method_139_code_0 : decode jdk_42_method_139_code 0 = .ok (.getstatic 38, 3) := by decide +kernel
theorem own_d_jdk_42_method_139_code_3 : decode jdk_42_method_139_code 3 = .ok (.ifCond .eq 23, 3) := by decide +kernel
theorem own_d_jdk_42_method_139_code_6 : decode jdk_42_method_139_code 6 = .ok (.iload_n 0, 1) := by decide +kernel
theorem own_d_jdk_42_method_139_code_7 : decode jdk_42_method_139_code 7 = .ok (.invokestatic 1015, 3) := by decide +kernel
theorem own_d_jdk_42_method_139_code_10 : decode jdk_42_method_139_code 10 = .ok (.ifCond .eq 16, 3) := by decide +kernel
theorem own_d_jdk_42_method_139_code_13 : decode jdk_42_method_139_code 13 = .ok (.new 10, 3) := by decide +kernel
theorem own_d_jdk_42_method_139_code_16 : decode jdk_42_method_139_code 16 = .ok (.dup, 1) := by decide +kernel
theorem own_d_jdk_42_method_139_code_17 : decode jdk_42_method_139_code 17 = .ok (.iload_n 0, 1) := by decide +kernel
theorem own_d_jdk_42_method_139_code_18 : decode jdk_42_method_139_code 18 = .ok (.invokestatic 1018, 3) := by decide +kernel
theorem own_d_jdk_42_method_139_code_21 : decode jdk_42_method_139_code 21 = .ok (.iconst 0, 1) := by decide +kernel
theorem own_d_jdk_42_method_139_code_22 : decode jdk_42_method_139_code 22 = .ok (.invokespecial 209, 3) := by decide +kernel
theorem own_d_jdk_42_method_139_code_25 : decode jdk_42_method_139_code 25 = .ok (.areturn, 1) := by decide +kernel
theorem own_d_method_4_code_0 : decode method_4_code 0 = .ok (.iload_n 0, 1) := by decide +kernel
theorem own_d_method_4_code_1 : decode method_4_code 1 = .ok (.ifCond .ne 14, 3) := by decide +kernel
theorem own_d_method_4_code_15 : decode method_4_code 15 = .ok (.iload_n 0, 1) := by decide +kernel
theorem own_d_method_4_code_16 : decode method_4_code 16 = .ok (.iconst 1, 1) := by decide +kernel
theorem own_d_method_4_code_17 : decode method_4_code 17 = .ok (.if_icmp .ne 8, 3) := by decide +kernel
theorem own_d_method_4_code_25 : decode method_4_code 25 = .ok (.new 26, 3) := by decide +kernel
theorem own_d_method_4_code_28 : decode method_4_code 28 = .ok (.dup, 1) := by decide +kernel
theorem own_d_method_4_code_29 : decode method_4_code 29 = .ok (.iconst 2, 1) := by decide +kernel
theorem own_d_method_4_code_30 : decode method_4_code 30 = .ok (.newarray .char, 2) := by decide +kernel
theorem own_d_method_4_code_32 : decode method_4_code 32 = .ok (.dup, 1) := by decide +kernel
theorem own_d_method_4_code_33 : decode method_4_code 33 = .ok (.iconst 0, 1) := by decide +kernel
theorem own_d_method_4_code_34 : decode method_4_code 34 = .ok (.iload_n 1, 1) := by decide +kernel
theorem own_d_method_4_code_35 : decode method_4_code 35 = .ok (.castore, 1) := by decide +kernel
theorem own_d_method_4_code_36 : decode method_4_code 36 = .ok (.dup, 1) := by decide +kernel
theorem own_d_method_4_code_37 : decode method_4_code 37 = .ok (.iconst 1, 1) := by decide +kernel
theorem own_d_method_4_code_38 : decode method_4_code 38 = .ok (.iload_n 2, 1) := by decide +kernel
theorem own_d_method_4_code_39 : decode method_4_code 39 = .ok (.castore, 1) := by decide +kernel
theorem own_d_method_4_code_40 : decode method_4_code 40 = .ok (.invokespecial 28, 3) := by decide +kernel
theorem own_d_method_4_code_43 : decode method_4_code 43 = .ok (.areturn, 1) := by decide +kernel
theorem own_d_method_4_code_20 : decode method_4_code 20 = .ok (.iload_n 1, 1) := by decide +kernel
theorem own_d_method_4_code_21 : decode method_4_code 21 = .ok (.invokestatic 31, 3) := by decide +kernel
theorem own_d_method_4_code_24 : decode method_4_code 24 = .ok (.areturn, 1) := by decide +kernel
theorem own_d_method_4_code_4 : decode method_4_code 4 = .ok (.new 26, 3) := by decide +kernel
theorem own_d_method_4_code_7 : decode method_4_code 7 = .ok (.dup, 1) := by decide +kernel
theorem own_d_method_4_code_8 : decode method_4_code 8 = .ok (.iconst 0, 1) := by decide +kernel
theorem own_d_method_4_code_9 : decode method_4_code 9 = .ok (.newarray .char, 2) := by decide +kernel
theorem own_d_method_4_code_11 : decode method_4_code 11 = .ok (.invokespecial 28, 3) := by decide +kernel
theorem own_d_method_4_code_14 : decode method_4_code 14 = .ok (.areturn, 1) := by decide +kernel
theorem own_pn_com_example_lockstitch_lockstitch_engine_tree_PropertyNameEqualsPinLaw : plainName "com/example/lockstitch/lockstitch/engine/tree/PropertyNameEqualsPinLaw" = true := by first | (simp [plainName, overriddenIn]; done) | decide +kernel
theorem own_d_prog_22_method_1_code_0 : decode prog_22_method_1_code 0 = .ok (.aload_n 0, 1) := by decide +kernel
theorem own_d_prog_22_method_1_code_1 : decode prog_22_method_1_code 1 = .ok (.invokespecial 1, 3) := by decide +kernel
theorem own_d_prog_22_method_1_code_4 : decode prog_22_method_1_code 4 = .ok (.aload_n 0, 1) := by decide +kernel
theorem own_d_prog_22_method_1_code_5 : decode prog_22_method_1_code 5 = .ok (.aload_n 1, 1) := by decide +kernel
theorem own_d_prog_22_method_1_code_6 : decode prog_22_method_1_code 6 = .ok (.invokestatic 7, 3) := by decide +kernel
theorem own_d_prog_22_method_1_code_9 : decode prog_22_method_1_code 9 = .ok (.checkcast 13, 3) := by decide +kernel
theorem own_d_prog_22_method_1_code_12 : decode prog_22_method_1_code 12 = .ok (.putfield 15, 3) := by decide +kernel
theorem own_d_prog_22_method_1_code_15 : decode prog_22_method_1_code 15 = .ok (.aload_n 0, 1) := by decide +kernel
theorem own_d_prog_22_method_1_code_16 : decode prog_22_method_1_code 16 = .ok (.aload_n 2, 1) := by decide +kernel
theorem own_d_prog_22_method_1_code_17 : decode prog_22_method_1_code 17 = .ok (.invokestatic 7, 3) := by decide +kernel
theorem own_d_prog_22_method_1_code_20 : decode prog_22_method_1_code 20 = .ok (.checkcast 13, 3) := by decide +kernel
theorem own_d_prog_22_method_1_code_23 : decode prog_22_method_1_code 23 = .ok (.putfield 21, 3) := by decide +kernel
theorem own_d_prog_22_method_1_code_26 : decode prog_22_method_1_code 26 = .ok (.return_, 1) := by decide +kernel
theorem own_pn_com_example_lockstitch_lockstitch_engine_tree_PropertyName : plainName "com/example/lockstitch/lockstitch/engine/tree/PropertyName" = true := by first | (simp [plainName, overriddenIn]; done) | decide +kernel
theorem own_d_prog_22_method_5_code_0 : decode prog_22_method_5_code 0 = .ok (.aload_n 1, 1) := by decide +kernel
theorem own_d_prog_22_method_5_code_1 : decode prog_22_method_5_code 1 = .ok (.instanceof 16, 3) := by decide +kernel
theorem own_d_prog_22_method_5_code_4 : decode prog_22_method_5_code 4 = .ok (.ifCond .eq 40, 3) := by decide +kernel
theorem own_d_prog_22_method_5_code_44 : decode prog_22_method_5_code 44 = .ok (.iconst 0, 1) := by decide +kernel
theorem own_d_prog_22_method_5_code_45 : decode prog_22_method_5_code 45 = .ok (.ireturn, 1) := by decide +kernel
theorem own_d_prog_22_method_5_code_7 : decode prog_22_method_5_code 7 = .ok (.aload_n 1, 1) := by decide +kernel
theorem own_d_prog_22_method_5_code_8 : decode prog_22_method_5_code 8 = .ok (.checkcast 16, 3) := by decide +kernel
theorem own_d_prog_22_method_5_code_11 : decode prog_22_method_5_code 11 = .ok (.astore_n 2, 1) := by decide +kernel
theorem own_d_prog_22_method_5_code_12 : decode prog_22_method_5_code 12 = .ok (.aload_n 2, 1) := by decide +kernel
theorem own_d_prog_22_method_5_code_13 : decode prog_22_method_5_code 13 = .ok (.getfield 15, 3) := by decide +kernel
theorem own_d_prog_22_method_5_code_16 : decode prog_22_method_5_code 16 = .ok (.aload_n 0, 1) := by decide +kernel
theorem own_d_prog_22_method_5_code_17 : decode prog_22_method_5_code 17 = .ok (.getfield 15, 3) := by decide +kernel
theorem own_d_prog_22_method_5_code_20 : decode prog_22_method_5_code 20 = .ok (.invokevirtual 28, 3) := by decide +kernel
theorem own_d_prog_22_method_5_code_23 : decode prog_22_method_5_code 23 = .ok (.ifCond .eq 21, 3) := by decide +kernel
theorem own_d_prog_22_method_5_code_26 : decode prog_22_method_5_code 26 = .ok (.aload_n 2, 1) := by decide +kernel
theorem own_d_prog_22_method_5_code_27 : decode prog_22_method_5_code 27 = .ok (.getfield 21, 3) := by decide +kernel
theorem own_d_prog_22_method_5_code_30 : decode prog_22_method_5_code 30 = .ok (.aload_n 0, 1) := by decide +kernel
theorem own_d_prog_22_method_5_code_31 : decode prog_22_method_5_code 31 = .ok (.getfield 21, 3) := by decide +kernel
theorem own_d_prog_22_method_5_code_34 : decode prog_22_method_5_code 34 = .ok (.invokevirtual 28, 3) := by decide +kernel
theorem own_d_prog_22_method_5_code_37 : decode prog_22_method_5_code 37 = .ok (.ifCond .eq 7, 3) := by decide +kernel
theorem own_d_prog_22_method_5_code_40 : decode prog_22_method_5_code 40 = .ok (.iconst 1, 1) := by decide +kernel
theorem own_d_prog_22_method_5_code_41 : decode prog_22_method_5_code 41 = .ok (.goto 4, 3) := by decide +kernel
theorem own_d_method_3_code_0 : decode method_3_code 0 = .ok (.iload_n 0, 1) := by decide +kernel
theorem own_d_method_3_code_1 : decode method_3_code 1 = .ok (.iload_n 3, 1) := by decide +kernel
theorem own_d_method_3_code_2 : decode method_3_code 2 = .ok (.if_icmp .ne 29, 3) := by decide +kernel
theorem own_d_method_3_code_31 : decode method_3_code 31 = .ok (.iconst 0, 1) := by decide +kernel
theorem own_d_method_3_code_32 : decode method_3_code 32 = .ok (.ireturn, 1) := by decide +kernel
theorem own_d_method_3_code_5 : decode method_3_code 5 = .ok (.iload_n 0, 1) := by decide +kernel
theorem own_d_method_3_code_6 : decode method_3_code 6 = .ok (.iconst 1, 1) := by decide +kernel
theorem own_d_method_3_code_7 : decode method_3_code 7 = .ok (.if_icmp .lt 9, 3) := by decide +kernel
theorem own_d_method_3_code_16 : decode method_3_code 16 = .ok (.iload_n 0, 1) := by decide +kernel
theorem own_d_method_3_code_17 : decode method_3_code 17 = .ok (.iconst 2, 1) := by decide +kernel
theorem own_d_method_3_code_18 : decode method_3_code 18 = .ok (.if_icmp .lt 9, 3) := by decide +kernel
theorem own_d_method_3_code_27 : decode method_3_code 27 = .ok (.iconst 1, 1) := by decide +kernel
theorem own_d_method_3_code_28 : decode method_3_code 28 = .ok (.goto 4, 3) := by decide +kernel
theorem own_d_method_3_code_21 : decode method_3_code 21 = .ok (.iload_n 2, 1) := by decide +kernel
theorem own_d_method_3_code_22 : decode method_3_code 22 = .ok (.iload 5, 2) := by decide +kernel
theorem own_d_method_3_code_24 : decode method_3_code 24 = .ok (.if_icmp .ne 7, 3) := by decide +kernel
theorem own_d_method_3_code_10 : decode method_3_code 10 = .ok (.iload_n 1, 1) := by decide +kernel
theorem own_d_method_3_code_11 : decode method_3_code 11 = .ok (.iload 4, 2) := by decide +kernel
theorem own_d_method_3_code_13 : decode method_3_code 13 = .ok (.if_icmp .ne 18, 3) := by decide +kernel
set_option maxRecDepth 65536 in
theorem own_hws {a0 : Array Value} {Z : State} (hw : ∀ d ∈ tables_1, d.before a0 Z = true) : ∀ d ∈ StrChars.Road.words, d.before a0 Z = true := fun d hd => hw d ((by decide +kernel : ∀ d ∈ StrChars.Road.words, d ∈ tables_1) d hd)
set_option maxRecDepth 65536 in
theorem own_heq {a0 : Array Value} {Z : State} (hw : ∀ d ∈ tables_1, d.before a0 Z = true) : ∀ d ∈ StrChars.Road.wordsEq, d.before a0 Z = true := fun d hd => hw d ((by decide +kernel : ∀ d ∈ StrChars.Road.wordsEq, d ∈ tables_1) d hd)
set_option maxRecDepth 65536 in
theorem own_hwS {a0 : Array Value} {Z : State} (hw : ∀ d ∈ tables_1, d.before a0 Z = true) : ∀ d ∈ Bundle.stringAtoms, d.before a0 Z = true := fun d hd => hw d ((by decide +kernel : ∀ d ∈ Bundle.stringAtoms, d ∈ tables_1) d hd)
def own_mkl (n a b : Int32) : List Int32 := if n = 0 then [] else if n = 1 then [a] else [a, b]
def own_same (la a0 a1 lb b0 b1 : Int32) : Int32 := if la = lb then (if la < 1 then (if la < 2 then 1 else if a1 = b1 then 1 else 0) else if a0 = b0 then (if la < 2 then 1 else if a1 = b1 then 1 else 0) else 0) else 0
def own_eqp (c' c d' d : List Int32) : Int32 := if c' = c then (if d' = d then 1 else 0) else 0
theorem own_mkl_same {n m : Int32} (hn : n = 0 ∨ n = 1 ∨ n = 2) (hm : m = 0 ∨ m = 1 ∨ m = 2) (a0 a1 b0 b1 : Int32) : own_same n a0 a1 m b0 b1 = if own_mkl m b0 b1 = own_mkl n a0 a1 then 1 else 0 := by
  rcases hn with rfl | rfl | rfl <;> rcases hm with rfl | rfl | rfl
  · simp [own_same, own_mkl]
  · simp [own_same, own_mkl]
  · simp [own_same, own_mkl]
  · simp [own_same, own_mkl]
  · by_cases h : a0 = b0
    · subst h; simp [own_same, own_mkl] <;> decide
    · have h' : ¬ b0 = a0 := fun q => h q.symm
      simp [own_same, own_mkl, h, h'] <;> decide
  · simp [own_same, own_mkl]
  · simp [own_same, own_mkl]
  · simp [own_same, own_mkl]
  · by_cases h : a0 = b0
    · subst h
      by_cases g : a1 = b1
      · subst g; simp [own_same, own_mkl]
      · have g' : ¬ b1 = a1 := fun q => g q.symm
        simp [own_same, own_mkl, g, g'] <;> decide
    · have h' : ¬ b0 = a0 := fun q => h q.symm
      simp [own_same, own_mkl, h, h'] <;> decide
theorem own_fin {n1 l1 n2 l2 : Int32} (hn1 : n1 = 0 ∨ n1 = 1 ∨ n1 = 2) (hl1 : l1 = 0 ∨ l1 = 1 ∨ l1 = 2) (hn2 : n2 = 0 ∨ n2 = 1 ∨ n2 = 2) (hl2 : l2 = 0 ∨ l2 = 1 ∨ l2 = 2) (a0 a1 a2 a3 b0 b1 b2 b3 : Int32) :
    own_eqp (own_mkl n2 b0 b1) (own_mkl n1 a0 a1) (own_mkl l2 b2 b3) (own_mkl l1 a2 a3) = if own_same n1 a0 a1 n2 b0 b1 = 0 then 0 else if own_same l1 a2 a3 l2 b2 b3 = 0 then 0 else 1 := by
  rw [own_mkl_same hn1 hn2, own_mkl_same hl1 hl2]
  unfold own_eqp
  by_cases h : own_mkl n2 b0 b1 = own_mkl n1 a0 a1 <;> by_cases g : own_mkl l2 b2 b3 = own_mkl l1 a2 a3 <;> simp [h, g]
theorem own_and3 (p : Int32) : p &&& 3 = 0 ∨ p &&& 3 = 1 ∨ p &&& 3 = 2 ∨ p &&& 3 = 3 := by
  have h := c_mask p 3 2 (by decide) (by decide)
  generalize p &&& 3 = i at h
  have h4 : ∀ n : Int, i.toInt = n → i = Int32.ofInt n := fun n q => by rw [← q]; simp
  have h5 : i.toInt = 0 ∨ i.toInt = 1 ∨ i.toInt = 2 ∨ i.toInt = 3 := by omega
  rcases h5 with h5 | h5 | h5 | h5
  · exact Or.inl (h4 _ h5)
  · exact Or.inr (Or.inl (h4 _ h5))
  · exact Or.inr (Or.inr (Or.inl (h4 _ h5)))
  · exact Or.inr (Or.inr (Or.inr (h4 _ h5)))
theorem own_m3 (p : Int32) : (p &&& 3) % 3 = 0 ∨ (p &&& 3) % 3 = 1 ∨ (p &&& 3) % 3 = 2 := by
  rcases own_and3 p with h | h | h | h <;> rw [h] <;> decide
theorem own_last2 {p : Int32} (hp : p = 0 ∨ p = 1 ∨ p = 2) (h0 : ¬ p = (0 : Int32)) (h1 : ¬ p = (1 : Int32)) : p = 2 := by
  rcases hp with h | h | h
  · exact absurd h h0
  · exact absurd h h1
  · exact h
theorem own_lt2 {p : Int32} (hp : p = 0 ∨ p = 1 ∨ p = 2 ∨ p = 3) (h0 : ¬ p = (2 : Int32)) (h1 : ¬ p = (3 : Int32)) : p < 2 := by
  rcases hp with rfl | rfl | h | h
  · decide
  · decide
  · exact absurd h h0
  · exact absurd h h1
theorem own_notPN {Z : State} {a0 : Array Value} (hw : ∀ d ∈ tables_1, d.before a0 Z = true) : ∃ c t, Z.vm.findClass "java/lang/String" = some c ∧ Z.vm.findClass "com/example/lockstitch/lockstitch/engine/tree/PropertyName" = some t ∧ Z.vm.assignable c t = false := by
  obtain ⟨t, kt, i1, i2, i3, i4, -, -⟩ := Cond.instantiable_spec (hw _ (List.mem_of_getElem? (i := 1) rfl))
  have i4' : kt.isInterface = false := (Bool.or_eq_false_iff.mp i4).1
  have root : NS Z "java/lang/Object" "com/example/lockstitch/lockstitch/engine/tree/PropertyName" := by
    obtain ⟨c, k, h1, h2, h3, -, -⟩ := Cond.noSuperclass_spec (hw _ (List.mem_of_getElem? (i := 86) rfl))
    have ne := ids_ne h1 i1 (by decide)
    refine ⟨c, t, h1, i1, fun fuel => ?_⟩
    cases fuel with
    | zero => rfl
    | succ f => simp [Vm.isSubclassAux, ne, h2, h3]
  have w1 := (hw _ (List.mem_of_getElem? (i := 85) rfl))
  obtain ⟨c, t', h0, g0, n3⟩ := NS.step w1 root (by decide)
  cases g0.symm.trans i1
  obtain ⟨p, k, kp, h1, h2, h3, h4, h5, -, h7⟩ := Cond.superclass_spec h0 w1
  have ne := ids_ne h0 g0 (by decide)
  exact ⟨c, _, h0, g0, by show Z.vm.assignableAux (255 + 1) c _ = false; simp [Vm.assignableAux, ne, h2, i2, h5, i3, i4', Vm.isSubclass, n3]⟩
set_option maxRecDepth 65536 in
set_option maxHeartbeats 40000000 in
theorem own_rnn (l : Launch) (Z : State) (a0 : Array Value) (hw : ∀ d ∈ tables_1, d.before a0 Z = true) (a1 : Addr) (h0 : Heap) (n0 : Nat)  :
    own_Met l (⟨"java/util/Objects", "requireNonNull", "(Ljava/lang/Object;)Ljava/lang/Object;"⟩ : MethodName) jdk_31_method_10_code 1 (some (.object "java/lang/Object")) ({ frames := 0, cells := 0, slots := 0, locals := 0 } : Room) Z #[(.ref a1)] h0 (fun v h L => v = some (.ref a1) ∧ Fr n0 L ∧ h = h0) := by
  refine own_met (plainFor_of_name own_pn_java_util_Objects) ?_
  intro p e s m below meth c T0 hx hby hml hZ hown hnm hret hlocks X0 e0 hh0
  have ef : entryFrame m #[(.ref a1)] 1 = mkF m 0 #[.val (.ref a1)] [] := by first | (simp [entryFrame, mkF, argsToLocals, Value.category]; done) | rfl
  refine own_entry ef ?_
  have N0 := Fr.nil n0
  refine own_aloadN X0 hx (hb hby own_d_jdk_31_method_10_code_0) rfl rfl rfl ?_
  refine own_ifnonnullT X0 hx (hb hby own_d_jdk_31_method_10_code_1) (by decide) rfl ?_
  refine own_aloadN X0 hx (hb hby own_d_jdk_31_method_10_code_12) rfl rfl rfl ?_
  exact own_retA X0 hx hlocks hret rfl rfl (hb hby own_d_jdk_31_method_10_code_13) (by decide) (by decide) ⟨rfl, N0, e0⟩
set_option maxRecDepth 65536 in
set_option maxHeartbeats 40000000 in
theorem own_s4 (l : Launch) (Z : State) (a0 : Array Value) (hw : ∀ d ∈ tables_1, d.before a0 Z = true) (a1 c1 : Addr) (h0 : Heap) (n0 : Nat) (hEL : EW Z a0 consts_1) (O0 : Old Z n0 h0) (g_a1 : n0 ≤ a1) (E0 : Exa Z h0 a1 "java/lang/String") (F1 : Fld Z h0 a1 "java/lang/String" "value" "[B" .null) (F2 : Fld Z h0 a1 "java/lang/String" "coder" "B" (.int (0 : Int32))) :
    own_MetH l (⟨"java/lang/String", "<init>", "([CIILjava/lang/Void;)V"⟩ : MethodName) jdk_42_method_149_code 6 none ({ frames := 1, cells := 4, slots := 8, locals := 12 } : Room) Z consts_1 #[(.ref a1), (.ref c1), (.int (0 : Int32)), (.int (0 : Int32)), .null] h0 (fun v h L => v = none ∧ Fr n0 L ∧ Keep h0 h [a1] ∧ own_Str Z h a1 []) := by
  refine own_metH (plainFor_of_name own_pn_java_lang_String) ?_
  intro p e s m below meth c T0 hx hby hml hZ hown hnm hret hlocks X0 e0 hh0 HH0
  have ef : entryFrame m #[(.ref a1), (.ref c1), (.int (0 : Int32)), (.int (0 : Int32)), .null] 6 = mkF m 0 #[.val (.ref a1), .val (.ref c1), .val (.int (0 : Int32)), .val (.int (0 : Int32)), .val .null, .unset] [] := by first | (simp [entryFrame, mkF, argsToLocals, Value.category]; done) | rfl
  refine own_entry ef ?_
  have N0 := Fr.nil n0
  have K0 := Keep.refl h0 [a1]
  have hwS := own_hwS hw
  have Y0 := own_safeNull (EL := consts_1) hZ.alike E0 F1
  refine own_aloadN X0 hx (hb hby own_d_jdk_42_method_149_code_0) rfl rfl rfl ?_
  refine own_initO X0 hx hZ hown (hw _ (List.mem_of_getElem? (i := 18) rfl)) (hw _ (List.mem_of_getElem? (i := 19) rfl)) (hw _ (List.mem_of_getElem? (i := 20) rfl)) e0 (by rw [hml]; rfl) (hb hby own_d_jdk_42_method_149_code_1) 0 rfl (by decide) (by decide) rfl ?_
  intro T1 X1 e1
  refine own_iloadN X1 hx (hb hby own_d_jdk_42_method_149_code_4) rfl rfl ?_
  refine own_ifF X1 hx (hb hby own_d_jdk_42_method_149_code_5) rfl (by decide) ?_
  refine own_aloadN X1 hx (hb hby own_d_jdk_42_method_149_code_8) rfl rfl rfl ?_
  refine own_ldcS X1 hx hZ hown (hw _ (List.mem_of_getElem? (i := 37) rfl)) hwS e1 HH0 hEL (List.mem_of_getElem? (i := 0) rfl) (vs := ((([] : List Int32).map StrChars.lo8).map Value.int)) (z := (0 : Int32)) (by decide +kernel) (by decide) (by decide) (hb hby own_d_jdk_42_method_149_code_9) 0 (by decide) (by decide) (by decide) (by decide) rfl ?_
  intro s2 T2 h2 t2 k2 X2 e2 E2 hZ hown HH2 A2 Ex2 Fc2 Fv2 V2 ne2
  have K3 := K0.ext E2
  have f4 := (CHr.safe A2 E0.lt Y0)
  have nq2_a1 := ne2 _ f4
  refine own_getF X2 hx hZ hown (host := "") (Or.inl (hw _ (List.mem_of_getElem? (i := 35) rfl))) Via.refl e2 Fv2 (hb hby own_d_jdk_42_method_149_code_11) rfl ?_
  intro T5 X5 e5
  have f6 := (F1.ext E2)
  have f7 := (E0.ext E2)
  refine own_putF X5 hx hZ hown (host := "") (Or.inl (hw _ (List.mem_of_getElem? (i := 35) rfl))) Via.refl e5 f6 f7 (Or.inr ⟨(hw _ (List.mem_of_getElem? (i := 36) rfl)), rfl, hnm⟩) (hw _ (List.mem_of_getElem? (i := 8) rfl)) (ty := (.array .byte)) (by decide) rfl rfl N0 g_a1 (hb hby own_d_jdk_42_method_149_code_14) rfl ?_
  intro T8 h8 X8 e8 W8 N8
  have HH9 := HH2.wr W8 f4
  have K10 := K3.wr W8 (Or.inl (List.mem_of_getElem? (i := 0) rfl))
  have f11 := f6.same W8
  refine own_aloadN X8 hx (hb hby own_d_jdk_42_method_149_code_17) rfl rfl rfl ?_
  refine own_ldcS X8 hx hZ hown (hw _ (List.mem_of_getElem? (i := 37) rfl)) hwS e8 HH9 hEL (List.mem_of_getElem? (i := 0) rfl) (vs := ((([] : List Int32).map StrChars.lo8).map Value.int)) (z := (0 : Int32)) (by decide +kernel) (by decide) (by decide) (hb hby own_d_jdk_42_method_149_code_18) 0 (by decide) (by decide) (by decide) (by decide) rfl ?_
  intro s12 T12 h12 t12 k12 X12 e12 E12 hZ hown HH12 A12 Ex12 Fc12 Fv12 V12 ne12
  have K13 := K10.ext E12
  have f14 := (CHr.safe A12 f11.lt (own_sfW f4 W8 f4 HH2))
  have nq12_a1 := ne12 _ f14
  refine own_getF X12 hx hZ hown (host := "") (Or.inl (hw _ (List.mem_of_getElem? (i := 33) rfl))) Via.refl e12 Fc12 (hb hby own_d_jdk_42_method_149_code_20) rfl ?_
  intro T15 X15 e15
  have f16 := (((F2.ext E2).other W8 (Or.inr (slot_ne (Or.inr (hw _ (List.mem_of_getElem? (i := 34) rfl))) (Or.inr (hw _ (List.mem_of_getElem? (i := 36) rfl))) (by decide) (t := .byte) (t' := (.array .byte)) (by decide) (by decide)))).ext E12)
  have f17 := ((f7.wr W8).ext E12)
  refine own_putFN X15 hx hZ hown (hw _ (List.mem_of_getElem? (i := 33) rfl)) Via.refl e15 (.int (0 : Int32)) f16 f17 (Or.inr ⟨(hw _ (List.mem_of_getElem? (i := 34) rfl)), rfl, hnm⟩) (hw _ (List.mem_of_getElem? (i := 8) rfl)) (ty := .byte) (by decide) rfl rfl N8 g_a1 (hb hby own_d_jdk_42_method_149_code_23) rfl ?_
  intro T18 h18 X18 e18 W18 N18
  have HH19 := HH12.wr W18 f14
  have K20 := K13.wr W18 (Or.inl (List.mem_of_getElem? (i := 0) rfl))
  have f21 := f16.same W18
  have f22 := (f17.wr W18)
  have f23 := ((f11.ext E12).other W18 (Or.inr (slot_ne (Or.inr (hw _ (List.mem_of_getElem? (i := 36) rfl))) (Or.inr (hw _ (List.mem_of_getElem? (i := 34) rfl))) (by decide) (t := (.array .byte)) (t' := .byte) (by decide) (by decide))))
  have f24 := (((V2.other W8 (Ne.symm nq2_a1.2)).ext E12).other W18 (Ne.symm nq2_a1.2))
  exact own_retH X18 hx hZ e18 HH19 hEL hlocks hret (hb hby own_d_jdk_42_method_149_code_26) (by decide) (by decide) ⟨rfl, N18, by rw [e18]; exact ⟨K20, _, _, _, _, _, f22, f23, f21, f24, StrChars.Road.codOf (cs := []) (n := 0) rfl (by decide), own_c0, (by decide)⟩⟩
set_option maxRecDepth 65536 in
set_option maxHeartbeats 40000000 in
theorem own_s1 (l : Launch) (Z : State) (a0 : Array Value) (hw : ∀ d ∈ tables_1, d.before a0 Z = true) (a1 c1 : Addr) (kc : ClassId) (h0 : Heap) (n0 : Nat) (hEL : EW Z a0 consts_1) (O0 : Old Z n0 h0) (g_a1 : n0 ≤ a1) (E0 : Exa Z h0 a1 "java/lang/String") (F1 : Fld Z h0 a1 "java/lang/String" "value" "[B" .null) (F2 : Fld Z h0 a1 "java/lang/String" "coder" "B" (.int (0 : Int32))) (V0 : Arv Z h0 c1 kc .char (0 : Int32) [] (.int (0 : Int32))) :
    own_MetH l (⟨"java/lang/String", "<init>", "([C)V"⟩ : MethodName) jdk_42_method_3_code 2 none ({ frames := 2, cells := 4, slots := 8, locals := 29 } : Room) Z consts_1 #[(.ref a1), (.ref c1)] h0 (fun v h L => v = none ∧ Fr n0 L ∧ Keep h0 h [a1] ∧ own_Str Z h a1 []) := by
  refine own_metH (plainFor_of_name own_pn_java_lang_String) ?_
  intro p e s m below meth c T0 hx hby hml hZ hown hnm hret hlocks X0 e0 hh0 HH0
  have ef : entryFrame m #[(.ref a1), (.ref c1)] 2 = mkF m 0 #[.val (.ref a1), .val (.ref c1)] [] := by first | (simp [entryFrame, mkF, argsToLocals, Value.category]; done) | rfl
  refine own_entry ef ?_
  have N0 := Fr.nil n0
  have K0 := Keep.refl h0 [a1]
  have hwS := own_hwS hw
  have Y0 := own_safeNull (EL := consts_1) hZ.alike E0 F1
  refine own_aloadN X0 hx (hb hby own_d_jdk_42_method_3_code_0) rfl rfl rfl ?_
  refine own_aloadN X0 hx (hb hby own_d_jdk_42_method_3_code_1) rfl rfl rfl ?_
  refine own_iconst X0 hx (0 : Int32) (hb hby own_d_jdk_42_method_3_code_2) (by decide) rfl ?_
  refine own_aloadN X0 hx (hb hby own_d_jdk_42_method_3_code_3) rfl rfl rfl ?_
  refine own_arraylength X0 hx hZ e0 V0 (hb hby own_d_jdk_42_method_3_code_4) rfl ?_
  refine own_aconst_null X0 hx (hb hby own_d_jdk_42_method_3_code_5) rfl ?_
  refine own_specialH X0 hx hZ (y := (⟨"java/lang/String", "<init>", "([CIILjava/lang/Void;)V"⟩ : MethodName)) rfl hown (hw _ (List.mem_of_getElem? (i := 14) rfl)) (hw _ (List.mem_of_getElem? (i := 15) rfl)) (hw _ (List.mem_of_getElem? (i := 9) rfl)) (hw _ (List.mem_of_getElem? (i := 17) rfl)) (by decide) HH0 hEL e0 (by decide) (W := 0) (by decide) (by decide) (by decide) [(.ref c1), (.int (0 : Int32)), (.int (0 : Int32)), .null] [] (by rw [hml]; rfl) (a := a1) (own_s4 l Z a0 hw a1 c1 h0 n0 hEL O0 g_a1 E0 F1 F2) own_pd0 rfl rfl rfl (hb hby own_d_jdk_42_method_3_code_6) rfl ?_
  intro v1 T1 L1 X1 hQ1 hZ hown HH1 A1
  obtain ⟨rfl, Nq1, Kq1, Ss1⟩ := hQ1
  have N1 := Fr.app N0 Nq1
  have K2 := K0.trans Kq1 (allS (Or.inl (List.mem_of_getElem? (i := 0) rfl)) all0)
  show own_Ends p e below _ (T1.setTop (mkF m 9 #[.val (.ref a1), .val (.ref c1)] []))
  exact own_retH X1 hx hZ rfl HH1 hEL hlocks hret (hb hby own_d_jdk_42_method_3_code_9) (by decide) (by decide) ⟨rfl, N1, K2, Ss1⟩
theorem own_lo8 (c : Int32) : (c.toInt8.toInt32).toInt8.toInt32 = c.toInt8.toInt32 := by simp
set_option maxRecDepth 65536 in
set_option maxHeartbeats 40000000 in
theorem own_canEnc (l : Launch) (Z : State) (a0 : Array Value) (hw : ∀ d ∈ tables_1, d.before a0 Z = true) (ch : Int32) (h0 : Heap) (n0 : Nat) (hc : ¬ ch < 0 ∧ ¬ (255 : Int32) < ch) :
    own_Met l (⟨"java/lang/StringLatin1", "canEncode", "(C)Z"⟩ : MethodName) jdk_43_method_3_code 1 (some .boolean) ({ frames := 0, cells := 0, slots := 0, locals := 0 } : Room) Z #[(.int ch)] h0 (fun v h L => v = some (.int 1) ∧ Fr n0 L ∧ h = h0) := by
  refine own_met (plainFor_of_name own_pn_java_lang_StringLatin1) ?_
  intro p e s m below meth c T0 hx hby hml hZ hown hnm hret hlocks X0 e0 hh0
  have ef : entryFrame m #[(.int ch)] 1 = mkF m 0 #[.val (.int ch)] [] := by first | (simp [entryFrame, mkF, argsToLocals, Value.category]; done) | rfl
  refine own_entry ef ?_
  have N0 := Fr.nil n0
  refine own_iloadN X0 hx (hb hby own_d_jdk_43_method_3_code_0) rfl rfl ?_
  refine own_sipush X0 hx (255 : Int32) (hb hby own_d_jdk_43_method_3_code_1) (by decide) rfl ?_
  refine own_icmpF X0 hx (hb hby own_d_jdk_43_method_3_code_4) rfl (flt hc.2).2.2.1 ?_
  refine own_iconst X0 hx (1 : Int32) (hb hby own_d_jdk_43_method_3_code_7) (by decide) rfl ?_
  refine own_goto X0 hx (hb hby own_d_jdk_43_method_3_code_8) (by decide) rfl ?_
  exact own_retN X0 hx hlocks hret (by simp) (hb hby own_d_jdk_43_method_3_code_12) (by decide) (by decide) (by decide) ⟨rfl, N0, e0⟩
set_option maxRecDepth 65536 in
set_option maxHeartbeats 40000000 in
theorem own_toBytes (l : Launch) (Z : State) (a0 : Array Value) (hw : ∀ d ∈ tables_1, d.before a0 Z = true) (ch : Int32) (h0 : Heap) (n0 : Nat) (Z0 : n0 ≤ h0.size) :
    own_Met l (⟨"java/lang/StringLatin1", "toBytes", "(C)[B"⟩ : MethodName) jdk_43_method_46_code 1 (some (.array .byte)) ({ frames := 0, cells := 1, slots := 1, locals := 0 } : Room) Z #[(.int ch)] h0 (fun v h L => ∃ (b : Addr) (k : ClassId), v = some (.ref b) ∧ Fr n0 L ∧ Keep h0 h [] ∧ n0 ≤ b ∧ h0.size ≤ b ∧ Arv Z h b k .byte (1 : Int32) [.int (ch.toInt8.toInt32)] (.int (0 : Int32))) := by
  refine own_met (plainFor_of_name own_pn_java_lang_StringLatin1) ?_
  intro p e s m below meth c T0 hx hby hml hZ hown hnm hret hlocks X0 e0 hh0
  have ef : entryFrame m #[(.int ch)] 1 = mkF m 0 #[.val (.int ch)] [] := by first | (simp [entryFrame, mkF, argsToLocals, Value.category]; done) | rfl
  refine own_entry ef ?_
  have N0 := Fr.nil n0
  have K0 := Keep.refl h0 []
  refine own_iconst X0 hx (1 : Int32) (hb hby own_d_jdk_43_method_46_code_0) (by decide) rfl ?_
  refine own_newP X0 hx hZ (aty := .byte) (hw _ (List.mem_of_getElem? (i := 26) rfl)) e0 (hb hby own_d_jdk_43_method_46_code_1) (by decide) 1 (by decide) (by decide) (by decide) (by decide) rfl ?_
  intro T1 h1 b1 k1 X1 e1 g1 E1 V1q
  have g_b1 : n0 ≤ b1 := Nat.le_trans (Nat.le_trans Z0 K0.1) (Nat.le_of_eq g1.symm)
  have sz_b1 : h0.size ≤ b1 := Nat.le_trans K0.1 (Nat.le_of_eq g1.symm)
  have K2 := K0.ext E1
  have V1 : Arv Z h1 b1 k1 .byte (1 : Int32) [(.int (0 : Int32))] (.int (0 : Int32)) := Arv.pad V1q (pad_rep [] (.int (0 : Int32)) 1)
  refine own_dup X1 hx (hb hby own_d_jdk_43_method_46_code_3) rfl rfl ?_
  refine own_iconst X1 hx (0 : Int32) (hb hby own_d_jdk_43_method_46_code_4) (by decide) rfl ?_
  refine own_iloadN X1 hx (hb hby own_d_jdk_43_method_46_code_5) rfl rfl ?_
  refine own_i2b X1 hx (hb hby own_d_jdk_43_method_46_code_6) rfl ?_
  refine own_stB X1 hx hZ e1 V1 ⟨by decide, by decide⟩ 0 rfl (Nat.le_of_ble_eq_true rfl) (own_lo8 ch) N0 g_b1 (hb hby own_d_jdk_43_method_46_code_7) rfl ?_
  intro T3 h3 X3 e3 W3 N3 V3
  have K4 := K2.wr W3 (Or.inr sz_b1)
  exact own_retA X3 hx hlocks hret rfl rfl (hb hby own_d_jdk_43_method_46_code_8) (by decide) (by decide) ⟨b1, _, rfl, N3, by rw [e3]; exact ⟨K4, g_b1, sz_b1, V3⟩⟩
set_option maxRecDepth 65536 in
set_option maxHeartbeats 40000000 in
theorem own_sbb (l : Launch) (Z : State) (a0 : Array Value) (hw : ∀ d ∈ tables_1, d.before a0 Z = true) (a1 b1 : Addr) (h0 : Heap) (n0 : Nat) (g_a1 : n0 ≤ a1) (E0 : Exa Z h0 a1 "java/lang/String") (F1 : Fld Z h0 a1 "java/lang/String" "value" "[B" .null) (F2 : Fld Z h0 a1 "java/lang/String" "coder" "B" (.int (0 : Int32))) :
    own_Met l (⟨"java/lang/String", "<init>", "([BB)V"⟩ : MethodName) jdk_42_method_151_code 3 none ({ frames := 1, cells := 0, slots := 0, locals := 12 } : Room) Z #[(.ref a1), (.ref b1), (.int (0 : Int32))] h0 (fun v h L => v = none ∧ Fr n0 L ∧ Keep h0 h [a1] ∧ Exa Z h a1 "java/lang/String" ∧ Fld Z h a1 "java/lang/String" "value" "[B" (.ref b1) ∧ Fld Z h a1 "java/lang/String" "coder" "B" (.int (0 : Int32))) := by
  refine own_met (plainFor_of_name own_pn_java_lang_String) ?_
  intro p e s m below meth c T0 hx hby hml hZ hown hnm hret hlocks X0 e0 hh0
  have ef : entryFrame m #[(.ref a1), (.ref b1), (.int (0 : Int32))] 3 = mkF m 0 #[.val (.ref a1), .val (.ref b1), .val (.int (0 : Int32))] [] := by first | (simp [entryFrame, mkF, argsToLocals, Value.category]; done) | rfl
  refine own_entry ef ?_
  have N0 := Fr.nil n0
  have K0 := Keep.refl h0 [a1]
  refine own_aloadN X0 hx (hb hby own_d_jdk_42_method_151_code_0) rfl rfl rfl ?_
  refine own_initO X0 hx hZ hown (hw _ (List.mem_of_getElem? (i := 18) rfl)) (hw _ (List.mem_of_getElem? (i := 19) rfl)) (hw _ (List.mem_of_getElem? (i := 20) rfl)) e0 (by rw [hml]; rfl) (hb hby own_d_jdk_42_method_151_code_1) 0 rfl (by decide) (by decide) rfl ?_
  intro T1 X1 e1
  refine own_aloadN X1 hx (hb hby own_d_jdk_42_method_151_code_4) rfl rfl rfl ?_
  refine own_aloadN X1 hx (hb hby own_d_jdk_42_method_151_code_5) rfl rfl rfl ?_
  refine own_putF X1 hx hZ hown (host := "") (Or.inl (hw _ (List.mem_of_getElem? (i := 35) rfl))) Via.refl e1 F1 E0 (Or.inr ⟨(hw _ (List.mem_of_getElem? (i := 36) rfl)), rfl, hnm⟩) (hw _ (List.mem_of_getElem? (i := 8) rfl)) (ty := (.array .byte)) (by decide) rfl rfl N0 g_a1 (hb hby own_d_jdk_42_method_151_code_6) rfl ?_
  intro T2 h2 X2 e2 W2 N2
  have K3 := K0.wr W2 (Or.inl (List.mem_of_getElem? (i := 0) rfl))
  have f4 := F1.same W2
  refine own_aloadN X2 hx (hb hby own_d_jdk_42_method_151_code_9) rfl rfl rfl ?_
  refine own_iloadN X2 hx (hb hby own_d_jdk_42_method_151_code_10) rfl rfl ?_
  have f5 := (F2.other W2 (Or.inr (slot_ne (Or.inr (hw _ (List.mem_of_getElem? (i := 34) rfl))) (Or.inr (hw _ (List.mem_of_getElem? (i := 36) rfl))) (by decide) (t := .byte) (t' := (.array .byte)) (by decide) (by decide))))
  have f6 := (E0.wr W2)
  refine own_putFN X2 hx hZ hown (hw _ (List.mem_of_getElem? (i := 33) rfl)) Via.refl e2 (.int (0 : Int32)) f5 f6 (Or.inr ⟨(hw _ (List.mem_of_getElem? (i := 34) rfl)), rfl, hnm⟩) (hw _ (List.mem_of_getElem? (i := 8) rfl)) (ty := .byte) (by decide) rfl rfl N2 g_a1 (hb hby own_d_jdk_42_method_151_code_11) rfl ?_
  intro T7 h7 X7 e7 W7 N7
  have K8 := K3.wr W7 (Or.inl (List.mem_of_getElem? (i := 0) rfl))
  have f9 := f5.same W7
  have f10 := (f6.wr W7)
  have f11 := (f4.other W7 (Or.inr (slot_ne (Or.inr (hw _ (List.mem_of_getElem? (i := 36) rfl))) (Or.inr (hw _ (List.mem_of_getElem? (i := 34) rfl))) (by decide) (t := (.array .byte)) (t' := .byte) (by decide) (by decide))))
  exact own_ret X7 hx hlocks hret (hb hby own_d_jdk_42_method_151_code_14) (by decide) (by decide) ⟨rfl, N7, by rw [e7]; exact ⟨K8, f10, f11, f9⟩⟩
set_option maxRecDepth 65536 in
set_option maxHeartbeats 40000000 in
theorem own_valueOf (l : Launch) (Z : State) (a0 : Array Value) (hw : ∀ d ∈ tables_1, d.before a0 Z = true) (ch zc : Int32) (h0 : Heap) (n0 : Nat) (O0 : Old Z n0 h0) (SC : Sta Z Z.heap "java/lang/String" "COMPACT_STRINGS" "Z" (.int zc)) (hzc : ¬ zc = 0) (hc : ¬ ch < 0 ∧ ¬ (255 : Int32) < ch) :
    own_Met l (⟨"java/lang/String", "valueOf", "(C)Ljava/lang/String;"⟩ : MethodName) jdk_42_method_139_code 1 (some (.object "java/lang/String")) ({ frames := 2, cells := 2, slots := 5, locals := 27 } : Room) Z #[(.int ch)] h0 (fun v h L => ∃ a : Addr, v = some (.ref a) ∧ Fr n0 L ∧ Keep h0 h [] ∧ n0 ≤ a ∧ h0.size ≤ a ∧ own_Str Z h a [ch]) := by
  refine own_met (plainFor_of_name own_pn_java_lang_String) ?_
  intro p e s m below meth c T0 hx hby hml hZ hown hnm hret hlocks X0 e0 hh0
  have ef : entryFrame m #[(.int ch)] 1 = mkF m 0 #[.val (.int ch)] [] := by first | (simp [entryFrame, mkF, argsToLocals, Value.category]; done) | rfl
  refine own_entry ef ?_
  have N0 := Fr.nil n0
  have K0 := Keep.refl h0 []
  have Z0 : n0 ≤ h0.size := O0.1 ▸ O0.2.1
  refine own_getS X0 hx hZ hown (host := "") (Or.inl (hw _ (List.mem_of_getElem? (i := 21) rfl))) Via.refl e0 (SC.ext O0.2) (hb hby own_d_jdk_42_method_139_code_0) rfl ?_
  intro T1 X1 e1
  refine own_ifF X1 hx (hb hby own_d_jdk_42_method_139_code_3) rfl (feq hzc).1 ?_
  refine own_iloadN X1 hx (hb hby own_d_jdk_42_method_139_code_6) rfl rfl ?_
  refine own_static X1 hx hZ (y := (⟨"java/lang/StringLatin1", "canEncode", "(C)Z"⟩ : MethodName)) hown (hw _ (List.mem_of_getElem? (i := 76) rfl)) (hw _ (List.mem_of_getElem? (i := 77) rfl)) (hw _ (List.mem_of_getElem? (i := 68) rfl)) (hw _ (List.mem_of_getElem? (i := 78) rfl)) (by decide) e1 (by decide) (W := 0) (by decide) (by decide) (by decide) [(.int ch)] [] (by rw [hml]; rfl) (own_canEnc l Z a0 hw ch h0 n0 hc) own_pd1 rfl rfl rfl (hb hby own_d_jdk_42_method_139_code_7) rfl ?_
  intro v2 T2 L2 X2 hQ2
  obtain ⟨rfl, Nq2, hh2⟩ := hQ2
  have N2 := Fr.app N0 Nq2
  show own_Ends p e below _ (T2.setTop (mkF m 10 #[.val (.int ch)] [(.int (1 : Int32))]))
  refine own_ifF X2 hx (hb hby own_d_jdk_42_method_139_code_10) rfl (by decide) ?_
  refine own_new X2 hx hZ hown (hw _ (List.mem_of_getElem? (i := 65) rfl)) (hw _ (List.mem_of_getElem? (i := 8) rfl)) (hw _ (List.mem_of_getElem? (i := 9) rfl)) hh2 (hb hby own_d_jdk_42_method_139_code_13) (by decide) (by decide) rfl ?_
  intro T3 h3 b3 X3 e3 g3 E3 A3 D3
  have g_b3 : n0 ≤ b3 := Nat.le_trans (own_oz O0) (Nat.le_of_eq g3.symm)
  have sz_b3 : h0.size ≤ b3 := Nat.le_trans K0.1 (Nat.le_of_eq g3.symm)
  have K4 := K0.ext E3
  have Fb3_coder : Fld Z h3 b3 "java/lang/String" "coder" "B" (.int (0 : Int32)) := D3 (Or.inr (hw _ (List.mem_of_getElem? (i := 34) rfl))) (ty := .byte) (by decide)
  have Fb3_value : Fld Z h3 b3 "java/lang/String" "value" "[B" .null := D3 (Or.inr (hw _ (List.mem_of_getElem? (i := 36) rfl))) (ty := (.array .byte)) (by decide)
  refine own_dup X3 hx (hb hby own_d_jdk_42_method_139_code_16) rfl rfl ?_
  refine own_iloadN X3 hx (hb hby own_d_jdk_42_method_139_code_17) rfl rfl ?_
  have f5 := (O0.ext E3)
  refine own_static X3 hx hZ (y := (⟨"java/lang/StringLatin1", "toBytes", "(C)[B"⟩ : MethodName)) hown (hw _ (List.mem_of_getElem? (i := 79) rfl)) (hw _ (List.mem_of_getElem? (i := 80) rfl)) (hw _ (List.mem_of_getElem? (i := 68) rfl)) (hw _ (List.mem_of_getElem? (i := 81) rfl)) (by decide) e3 (by decide) (W := 2) (by decide) (by decide) (by decide) [(.int ch)] [(.ref b3), (.ref b3)] (by rw [hml]; rfl) (own_toBytes l Z a0 hw ch h3 n0 (own_oz f5)) own_pd2 rfl rfl rfl (hb hby own_d_jdk_42_method_139_code_18) rfl ?_
  intro v6 T6 L6 X6 hQ6
  obtain ⟨b6, k6, rfl, Nq6, Kq6, g_b6, sz_b6, V6⟩ := hQ6
  have N6 := Fr.app N2 Nq6
  have K7 := K4.trans Kq6 all0
  show own_Ends p e below _ (T6.setTop (mkF m 21 #[.val (.int ch)] [(.ref b6), (.ref b3), (.ref b3)]))
  refine own_iconst X6 hx (0 : Int32) (hb hby own_d_jdk_42_method_139_code_21) (by decide) rfl ?_
  have f8 := (A3.keep Kq6)
  have f9 := (Fb3_value.keep Kq6 nin0)
  have f10 := (Fb3_coder.keep Kq6 nin0)
  refine own_special X6 hx hZ (y := (⟨"java/lang/String", "<init>", "([BB)V"⟩ : MethodName)) rfl hown (hw _ (List.mem_of_getElem? (i := 82) rfl)) (hw _ (List.mem_of_getElem? (i := 83) rfl)) (hw _ (List.mem_of_getElem? (i := 9) rfl)) (hw _ (List.mem_of_getElem? (i := 84) rfl)) (by decide) rfl (by decide) (W := 1) (by decide) (by decide) (by decide) [(.ref b6), (.int (0 : Int32))] [(.ref b3)] (by rw [hml]; rfl) (a := b3) (own_sbb l Z a0 hw b3 b6 T6.heap n0 g_b3 f8 f9 f10) own_pd3 rfl rfl rfl (hb hby own_d_jdk_42_method_139_code_22) rfl ?_
  intro v11 T11 L11 X11 hQ11
  obtain ⟨rfl, Nq11, Kq11, Es11, Vs11, Cs11⟩ := hQ11
  have N11 := Fr.app N6 Nq11
  have K12 := K7.trans Kq11 (allS (Or.inr sz_b3) all0)
  show own_Ends p e below _ (T11.setTop (mkF m 25 #[.val (.int ch)] [(.ref b3)]))
  have f13 := (V6.keep Kq11 (ninS (Ne.symm (Exa.neArv f8 V6 (hw _ (List.mem_of_getElem? (i := 8) rfl)))) nin0))
  exact own_retA X11 hx hlocks hret rfl rfl (hb hby own_d_jdk_42_method_139_code_25) (by decide) (by decide) ⟨b3, rfl, N11, by exact ⟨K12, g_b3, sz_b3, _, _, _, _, _, Es11, Vs11, Cs11, f13, StrChars.Road.codOf (cs := [ch]) (n := 1) rfl (own_c2 hc.2 own_c0), own_up (own_c2 hc own_c0), (Nat.le_of_ble_eq_true rfl)⟩⟩
set_option maxRecDepth 65536 in
set_option maxHeartbeats 40000000 in
theorem own_mk (l : Launch) (Z : State) (a0 : Array Value) (hw : ∀ d ∈ tables_1, d.before a0 Z = true) (p1 c0 c1 zc : Int32) (h0 : Heap) (n0 : Nat) (hEL : EW Z a0 consts_1) (O0 : Old Z n0 h0) (hc0 : ¬ c0 < 0 ∧ ¬ (255 : Int32) < c0) (hc1 : ¬ c1 < 0 ∧ ¬ (255 : Int32) < c1) (SC : Sta Z Z.heap "java/lang/String" "COMPACT_STRINGS" "Z" (.int zc)) (hzc : ¬ zc = 0) :
    own_MetH l (⟨"com/example/lockstitch/lockstitch/engine/tree/PropertyNameEqualsPinLaw", "mk", "(ICC)Ljava/lang/String;"⟩ : MethodName) method_4_code 3 (some (.object "java/lang/String")) ({ frames := 4, cells := 6, slots := 12, locals := 66 } : Room) Z consts_1 #[(.int p1), (.int c0), (.int c1)] h0 (fun v h L => ∃ (a : Addr), v = some (.ref a) ∧ Fr n0 L ∧ Keep h0 h [] ∧ own_Str Z h a (own_mkl p1 c0 c1)) := by
  refine own_metH (plainFor_of_name own_pn_com_example_lockstitch_lockstitch_engine_tree_PropertyNameEqualsPinLaw) ?_
  intro p e s m below meth c T0 hx hby hml hZ hown hnm hret hlocks X0 e0 hh0 HH0
  have ef : entryFrame m #[(.int p1), (.int c0), (.int c1)] 3 = mkF m 0 #[.val (.int p1), .val (.int c0), .val (.int c1)] [] := by first | (simp [entryFrame, mkF, argsToLocals, Value.category]; done) | rfl
  refine own_entry ef ?_
  have N0 := Fr.nil n0
  have K0 := Keep.refl h0 []
  refine own_iloadN X0 hx (hb hby own_d_method_4_code_0) rfl rfl ?_
  refine own_if_ne X0 hx (hb hby own_d_method_4_code_1) (by decide) rfl rfl (fun hc1_1 => ?_) (fun hc1_1 => ?_)
  · refine own_iloadN X0 hx (hb hby own_d_method_4_code_15) rfl rfl ?_
    refine own_iconst X0 hx (1 : Int32) (hb hby own_d_method_4_code_16) (by decide) rfl ?_
    refine own_icmp_ne X0 hx (hb hby own_d_method_4_code_17) (by decide) rfl rfl (fun hc17_2 => ?_) (fun hc17_2 => ?_)
    · refine own_new X0 hx hZ hown (hw _ (List.mem_of_getElem? (i := 7) rfl)) (hw _ (List.mem_of_getElem? (i := 8) rfl)) (hw _ (List.mem_of_getElem? (i := 9) rfl)) e0 (hb hby own_d_method_4_code_25) (by decide) (by decide) rfl ?_
      intro T3 h3 b3 X3 e3 g3 E3 A3 D3
      have g_b3 : n0 ≤ b3 := Nat.le_trans (own_oz O0) (Nat.le_of_eq g3.symm)
      have sz_b3 : h0.size ≤ b3 := Nat.le_trans K0.1 (Nat.le_of_eq g3.symm)
      have HH4 := HH0.ext E3
      have K5 := K0.ext E3
      have Y_b3 := own_sfN g3 E3 HH0
      have Fb3_coder : Fld Z h3 b3 "java/lang/String" "coder" "B" (.int (0 : Int32)) := D3 (Or.inr (hw _ (List.mem_of_getElem? (i := 34) rfl))) (ty := .byte) (by decide)
      have Fb3_value : Fld Z h3 b3 "java/lang/String" "value" "[B" .null := D3 (Or.inr (hw _ (List.mem_of_getElem? (i := 36) rfl))) (ty := (.array .byte)) (by decide)
      refine own_dup X3 hx (hb hby own_d_method_4_code_28) rfl rfl ?_
      refine own_iconst X3 hx (2 : Int32) (hb hby own_d_method_4_code_29) (by decide) rfl ?_
      refine own_newP X3 hx hZ (aty := .char) (hw _ (List.mem_of_getElem? (i := 10) rfl)) e3 (hb hby own_d_method_4_code_30) (by decide) 2 (by decide) (by decide) (by decide) (by decide) rfl ?_
      intro T6 h6 b6 k6 X6 e6 g6 E6 V6q
      have f7 := (O0.ext E3)
      have g_b6 : n0 ≤ b6 := Nat.le_trans (own_oz f7) (Nat.le_of_eq g6.symm)
      have sz_b6 : h0.size ≤ b6 := Nat.le_trans K5.1 (Nat.le_of_eq g6.symm)
      have HH8 := HH4.ext E6
      have K9 := K5.ext E6
      have V6 : Arv Z h6 b6 k6 .char (2 : Int32) [(.int (0 : Int32)), (.int (0 : Int32))] (.int (0 : Int32)) := Arv.pad V6q (pad_rep [] (.int (0 : Int32)) 2)
      refine own_dup X6 hx (hb hby own_d_method_4_code_32) rfl rfl ?_
      refine own_iconst X6 hx (0 : Int32) (hb hby own_d_method_4_code_33) (by decide) rfl ?_
      refine own_iloadN X6 hx (hb hby own_d_method_4_code_34) rfl rfl ?_
      refine own_stC X6 hx hZ e6 V6 ⟨by decide, by decide⟩ 0 rfl (Nat.le_of_ble_eq_true rfl) (own_narC hc0) N0 g_b6 (hb hby own_d_method_4_code_35) rfl ?_
      intro T10 h10 X10 e10 W10 N10 V10
      have HH11 := HH8.wr W10 (Safe.arv hZ.alike V6 (by decide))
      have K12 := K9.wr W10 (Or.inr sz_b6)
      refine own_dup X10 hx (hb hby own_d_method_4_code_36) rfl rfl ?_
      refine own_iconst X10 hx (1 : Int32) (hb hby own_d_method_4_code_37) (by decide) rfl ?_
      refine own_iloadN X10 hx (hb hby own_d_method_4_code_38) rfl rfl ?_
      refine own_stC X10 hx hZ e10 V10 ⟨by decide, by decide⟩ 1 rfl (Nat.le_of_ble_eq_true rfl) (own_narC hc1) N10 g_b6 (hb hby own_d_method_4_code_39) rfl ?_
      intro T13 h13 X13 e13 W13 N13 V13
      have HH14 := HH11.wr W13 (Safe.arv hZ.alike V10 (by decide))
      have K15 := K12.wr W13 (Or.inr sz_b6)
      have hp_b3 : ∀ c ∈ ([c0, c1] : List Int32), ¬ c < 0 ∧ ¬ (255 : Int32) < c := (own_c2 hc0 (own_c2 hc1 own_c0))
      have f16 := (((A3.ext E6).wr W10).wr W13)
      have f17 := (((Fb3_value.ext E6).other W10 (Or.inl (Nat.ne_of_lt (Nat.lt_of_lt_of_le A3.lt (Nat.le_of_eq g6.symm))))).other W13 (Or.inl (Nat.ne_of_lt (Nat.lt_of_lt_of_le A3.lt (Nat.le_of_eq g6.symm)))))
      have f18 := (((Fb3_coder.ext E6).other W10 (Or.inl (Nat.ne_of_lt (Nat.lt_of_lt_of_le A3.lt (Nat.le_of_eq g6.symm))))).other W13 (Or.inl (Nat.ne_of_lt (Nat.lt_of_lt_of_le A3.lt (Nat.le_of_eq g6.symm)))))
      have f19 := (((f7.ext E6).wr W10 g_b6).wr W13 g_b6)
      have f20 := (own_sfW (own_sfW (own_sfE Y_b3 E6 HH4) W10 (Safe.arv hZ.alike V6 (by decide)) HH8) W13 (Safe.arv hZ.alike V10 (by decide)) HH11)
      refine own_specialB X13 hx hZ (y := (⟨"java/lang/String", "<init>", "([C)V"⟩ : MethodName)) rfl hown (hw _ (List.mem_of_getElem? (i := 11) rfl)) (hw _ (List.mem_of_getElem? (i := 12) rfl)) (hw _ (List.mem_of_getElem? (i := 13) rfl)) (by decide) e13 (W := 1) (ce := 1) (sl := 2) (by decide) (by decide) [(.ref b6)] [(.ref b3)] (by rw [hml]; rfl) (a := b3) (StrChars.Road.QV Z b3 (2 : Int32) (([c0, c1] : List Int32).map (fun c => c.toInt8.toInt32)) h13 n0) (StrChars.Road.backV (W := 1) hZ (own_hws hw) (kI := 4) (hw _ (List.mem_of_getElem? (i := 8) rfl)) (cs := ([c0, c1] : List Int32)) (bs := (([c0, c1] : List Int32).map (fun c => c.toInt8.toInt32))) (n := 2) g_b3 (own_oz f19) f16 f17 f18 V13 (SC.ext f19.2) hzc rfl rfl (by decide) (by decide) hp_b3 rfl (by decide) (by decide)) own_pd4 rfl rfl rfl (hb hby own_d_method_4_code_40) rfl ?_
      intro v21 T21 L21 X21 hQ21
      obtain ⟨rfl, Nq21, Kq21, Es21, Cs21, t21, kb21, gt21, st21, nt21, Vs21, Ks21⟩ := hQ21
      have N21 := Fr.app N13 Nq21
      have HH22 := HH14.keep Kq21 (sfS f20 sf0)
      have K23 := K15.trans Kq21 (allS (Or.inr sz_b3) all0)
      have co21 : StrChars.Road.CodA ([c0, c1] : List Int32) 0 (2 : Int32) (((([c0, c1] : List Int32).map (fun c => c.toInt8.toInt32))).map Value.int) := StrChars.Road.codOf (n := 2) rfl (fun c hc => (hp_b3 c hc).2)
      have hb21 := own_up hp_b3
      show own_Ends p e below _ (T21.setTop (mkF m 43 #[.val (.int p1), .val (.int c0), .val (.int c1)] [(.ref b3)]))
      exact own_retAH X21 hx hZ rfl HH22 hEL hlocks hret rfl rfl (hb hby own_d_method_4_code_43) (by decide) (by decide) ⟨_, rfl, N21, by exact ⟨K23, by rw [show own_mkl p1 c0 c1 = ([c0, c1] : List Int32) from by simp [own_mkl, hc1_1, hc17_2]]; exact ⟨_, _, _, _, _, Es21, Vs21, Cs21, Ks21, co21, hb21, (Nat.le_of_ble_eq_true rfl)⟩⟩⟩
    · refine own_iloadN X0 hx (hb hby own_d_method_4_code_20) rfl rfl ?_
      refine own_static X0 hx hZ (y := (⟨"java/lang/String", "valueOf", "(C)Ljava/lang/String;"⟩ : MethodName)) hown (hw _ (List.mem_of_getElem? (i := 73) rfl)) (hw _ (List.mem_of_getElem? (i := 74) rfl)) (hw _ (List.mem_of_getElem? (i := 9) rfl)) (hw _ (List.mem_of_getElem? (i := 75) rfl)) (by decide) e0 (by decide) (W := 0) (by decide) (by decide) (by decide) [(.int c0)] [] (by rw [hml]; rfl) (own_valueOf l Z a0 hw c0 zc h0 n0 O0 SC hzc hc0) own_pd5 rfl rfl rfl (hb hby own_d_method_4_code_21) rfl ?_
      intro v24 T24 L24 X24 hQ24
      obtain ⟨a24, rfl, Nq24, Kq24, g_a24, sz_a24, Ss24⟩ := hQ24
      have N24 := Fr.app N0 Nq24
      have HH25 := HH0.keep Kq24 sf0
      have K26 := K0.trans Kq24 all0
      obtain ⟨t24, kb24, cd24, Nn24, vs24, Es24, Vs24, Cs24, Ks24, cod24, hbd24, hle24⟩ := Ss24
      show own_Ends p e below _ (T24.setTop (mkF m 24 #[.val (.int p1), .val (.int c0), .val (.int c1)] [(.ref a24)]))
      exact own_retAH X24 hx hZ rfl HH25 hEL hlocks hret rfl rfl (hb hby own_d_method_4_code_24) (by decide) (by decide) ⟨_, rfl, N24, by exact ⟨K26, by rw [show own_mkl p1 c0 c1 = ([c0] : List Int32) from by simp [own_mkl, hc1_1, hc17_2]]; exact ⟨_, _, _, _, _, Es24, Vs24, Cs24, Ks24, cod24, hbd24, hle24⟩⟩⟩
  · refine own_new X0 hx hZ hown (hw _ (List.mem_of_getElem? (i := 7) rfl)) (hw _ (List.mem_of_getElem? (i := 8) rfl)) (hw _ (List.mem_of_getElem? (i := 9) rfl)) e0 (hb hby own_d_method_4_code_4) (by decide) (by decide) rfl ?_
    intro T27 h27 b27 X27 e27 g27 E27 A27 D27
    have g_b27 : n0 ≤ b27 := Nat.le_trans (own_oz O0) (Nat.le_of_eq g27.symm)
    have sz_b27 : h0.size ≤ b27 := Nat.le_trans K0.1 (Nat.le_of_eq g27.symm)
    have HH28 := HH0.ext E27
    have K29 := K0.ext E27
    have Y_b27 := own_sfN g27 E27 HH0
    have Fb27_coder : Fld Z h27 b27 "java/lang/String" "coder" "B" (.int (0 : Int32)) := D27 (Or.inr (hw _ (List.mem_of_getElem? (i := 34) rfl))) (ty := .byte) (by decide)
    have Fb27_value : Fld Z h27 b27 "java/lang/String" "value" "[B" .null := D27 (Or.inr (hw _ (List.mem_of_getElem? (i := 36) rfl))) (ty := (.array .byte)) (by decide)
    refine own_dup X27 hx (hb hby own_d_method_4_code_7) rfl rfl ?_
    refine own_iconst X27 hx (0 : Int32) (hb hby own_d_method_4_code_8) (by decide) rfl ?_
    refine own_newP X27 hx hZ (aty := .char) (hw _ (List.mem_of_getElem? (i := 10) rfl)) e27 (hb hby own_d_method_4_code_9) (by decide) 0 (by decide) (by decide) (by decide) (by decide) rfl ?_
    intro T30 h30 b30 k30 X30 e30 g30 E30 V30q
    have f31 := (O0.ext E27)
    have g_b30 : n0 ≤ b30 := Nat.le_trans (own_oz f31) (Nat.le_of_eq g30.symm)
    have sz_b30 : h0.size ≤ b30 := Nat.le_trans K29.1 (Nat.le_of_eq g30.symm)
    have HH32 := HH28.ext E30
    have K33 := K29.ext E30
    have V30 : Arv Z h30 b30 k30 .char (0 : Int32) [] (.int (0 : Int32)) := V30q
    have f34 := (f31.ext E30)
    have f35 := (A27.ext E30)
    have f36 := (Fb27_value.ext E30)
    have f37 := (Fb27_coder.ext E30)
    refine own_specialH X30 hx hZ (y := (⟨"java/lang/String", "<init>", "([C)V"⟩ : MethodName)) rfl hown (hw _ (List.mem_of_getElem? (i := 11) rfl)) (hw _ (List.mem_of_getElem? (i := 12) rfl)) (hw _ (List.mem_of_getElem? (i := 9) rfl)) (hw _ (List.mem_of_getElem? (i := 13) rfl)) (by decide) HH32 hEL e30 (by decide) (W := 1) (by decide) (by decide) (by decide) [(.ref b30)] [(.ref b27)] (by rw [hml]; rfl) (a := b27) (own_s1 l Z a0 hw b27 b30 _ h30 n0 hEL f34 g_b27 f35 f36 f37 V30) own_pd4 rfl rfl rfl (hb hby own_d_method_4_code_11) rfl ?_
    intro v38 T38 L38 X38 hQ38 hZ hown HH38 A38
    obtain ⟨rfl, Nq38, Kq38, Ss38⟩ := hQ38
    have N38 := Fr.app N0 Nq38
    have K39 := K33.trans Kq38 (allS (Or.inr sz_b27) all0)
    obtain ⟨t38, kb38, cd38, Nn38, vs38, Es38, Vs38, Cs38, Ks38, cod38, hbd38, hle38⟩ := Ss38
    show own_Ends p e below _ (T38.setTop (mkF m 14 #[.val (.int p1), .val (.int c0), .val (.int c1)] [(.ref b27)]))
    exact own_retAH X38 hx hZ rfl HH38 hEL hlocks hret rfl rfl (hb hby own_d_method_4_code_14) (by decide) (by decide) ⟨_, rfl, N38, by exact ⟨K39, by rw [show own_mkl p1 c0 c1 = ([] : List Int32) from by simp [own_mkl, hc1_1]]; exact ⟨_, _, _, _, _, Es38, Vs38, Cs38, Ks38, cod38, hbd38, hle38⟩⟩⟩
set_option maxRecDepth 65536 in
set_option maxHeartbeats 40000000 in
theorem own_pni (l : Launch) (Z : State) (a0 : Array Value) (hw : ∀ d ∈ tables_1, d.before a0 Z = true) (a1 s1 s2 : Addr) (h0 : Heap) (n0 : Nat) (g_a1 : n0 ≤ a1) (E0 : Exa Z h0 a1 "com/example/lockstitch/lockstitch/engine/tree/PropertyName") (E1 : Exa Z h0 s1 "java/lang/String") (E2 : Exa Z h0 s2 "java/lang/String") (D0 : (∀ {O nm d : String} {ty : FieldType}, Laid Z a0 "com/example/lockstitch/lockstitch/engine/tree/PropertyName" O nm d → parseFieldDescriptor d = some ty → Fld Z h0 a1 O nm d (defaultValue ty))) :
    own_Met l (⟨"com/example/lockstitch/lockstitch/engine/tree/PropertyName", "<init>", "(Ljava/lang/String;Ljava/lang/String;)V"⟩ : MethodName) prog_22_method_1_code 3 none ({ frames := 1, cells := 0, slots := 0, locals := 13 } : Room) Z #[(.ref a1), (.ref s1), (.ref s2)] h0 (fun v h L => v = none ∧ Fr n0 L ∧ Keep h0 h [a1] ∧ Fld Z h a1 "com/example/lockstitch/lockstitch/engine/tree/PropertyName" "namespace" "Ljava/lang/String;" (.ref s1) ∧ Fld Z h a1 "com/example/lockstitch/lockstitch/engine/tree/PropertyName" "localName" "Ljava/lang/String;" (.ref s2)) := by
  refine own_met (plainFor_of_name own_pn_com_example_lockstitch_lockstitch_engine_tree_PropertyName) ?_
  intro p e s m below meth c T0 hx hby hml hZ hown hnm hret hlocks X0 e0 hh0
  have ef : entryFrame m #[(.ref a1), (.ref s1), (.ref s2)] 3 = mkF m 0 #[.val (.ref a1), .val (.ref s1), .val (.ref s2)] [] := by first | (simp [entryFrame, mkF, argsToLocals, Value.category]; done) | rfl
  refine own_entry ef ?_
  have N0 := Fr.nil n0
  have K0 := Keep.refl h0 [a1]
  have Fa1_namespace : Fld Z h0 a1 "com/example/lockstitch/lockstitch/engine/tree/PropertyName" "namespace" "Ljava/lang/String;" .null := D0 (Or.inr (hw _ (List.mem_of_getElem? (i := 50) rfl))) (ty := (.object "java/lang/String")) (by decide)
  have Fa1_localName : Fld Z h0 a1 "com/example/lockstitch/lockstitch/engine/tree/PropertyName" "localName" "Ljava/lang/String;" .null := D0 (Or.inr (hw _ (List.mem_of_getElem? (i := 52) rfl))) (ty := (.object "java/lang/String")) (by decide)
  refine own_aloadN X0 hx (hb hby own_d_prog_22_method_1_code_0) rfl rfl rfl ?_
  refine own_initO X0 hx hZ hown (hw _ (List.mem_of_getElem? (i := 43) rfl)) (hw _ (List.mem_of_getElem? (i := 19) rfl)) (hw _ (List.mem_of_getElem? (i := 20) rfl)) e0 (by rw [hml]; rfl) (hb hby own_d_prog_22_method_1_code_1) 0 rfl (by decide) (by decide) rfl ?_
  intro T1 X1 e1
  refine own_aloadN X1 hx (hb hby own_d_prog_22_method_1_code_4) rfl rfl rfl ?_
  refine own_aloadN X1 hx (hb hby own_d_prog_22_method_1_code_5) rfl rfl rfl ?_
  refine own_static X1 hx hZ (y := (⟨"java/util/Objects", "requireNonNull", "(Ljava/lang/Object;)Ljava/lang/Object;"⟩ : MethodName)) hown (hw _ (List.mem_of_getElem? (i := 44) rfl)) (hw _ (List.mem_of_getElem? (i := 45) rfl)) (hw _ (List.mem_of_getElem? (i := 46) rfl)) (hw _ (List.mem_of_getElem? (i := 47) rfl)) (by decide) e1 (by decide) (W := 1) (by decide) (by decide) (by decide) [(.ref s1)] [(.ref a1)] (by rw [hml]; rfl) (own_rnn l Z a0 hw s1 h0 n0) own_pd6 rfl rfl rfl (hb hby own_d_prog_22_method_1_code_6) rfl ?_
  intro v2 T2 L2 X2 hQ2
  obtain ⟨rfl, Nq2, hh2⟩ := hQ2
  have N2 := Fr.app N0 Nq2
  show own_Ends p e below _ (T2.setTop (mkF m 9 #[.val (.ref a1), .val (.ref s1), .val (.ref s2)] [(.ref s1), (.ref a1)]))
  refine own_castY X2 hx hZ hown (hw _ (List.mem_of_getElem? (i := 48) rfl)) hh2 (Ins.self E1) (hb hby own_d_prog_22_method_1_code_9) rfl ?_
  intro T3 X3 e3
  refine own_putF X3 hx hZ hown (host := "") (Or.inl (hw _ (List.mem_of_getElem? (i := 49) rfl))) Via.refl e3 Fa1_namespace E0 (Or.inr ⟨(hw _ (List.mem_of_getElem? (i := 50) rfl)), rfl, hnm⟩) (hw _ (List.mem_of_getElem? (i := 1) rfl)) (ty := (.object "java/lang/String")) (by decide) rfl rfl N2 g_a1 (hb hby own_d_prog_22_method_1_code_12) rfl ?_
  intro T4 h4 X4 e4 W4 N4
  have K5 := K0.wr W4 (Or.inl (List.mem_of_getElem? (i := 0) rfl))
  have f6 := Fa1_namespace.same W4
  refine own_aloadN X4 hx (hb hby own_d_prog_22_method_1_code_15) rfl rfl rfl ?_
  refine own_aloadN X4 hx (hb hby own_d_prog_22_method_1_code_16) rfl rfl rfl ?_
  refine own_static X4 hx hZ (y := (⟨"java/util/Objects", "requireNonNull", "(Ljava/lang/Object;)Ljava/lang/Object;"⟩ : MethodName)) hown (hw _ (List.mem_of_getElem? (i := 44) rfl)) (hw _ (List.mem_of_getElem? (i := 45) rfl)) (hw _ (List.mem_of_getElem? (i := 46) rfl)) (hw _ (List.mem_of_getElem? (i := 47) rfl)) (by decide) e4 (by decide) (W := 1) (by decide) (by decide) (by decide) [(.ref s2)] [(.ref a1)] (by rw [hml]; rfl) (own_rnn l Z a0 hw s2 h4 n0) own_pd6 rfl rfl rfl (hb hby own_d_prog_22_method_1_code_17) rfl ?_
  intro v7 T7 L7 X7 hQ7
  obtain ⟨rfl, Nq7, hh7⟩ := hQ7
  have N7 := Fr.app N4 Nq7
  show own_Ends p e below _ (T7.setTop (mkF m 20 #[.val (.ref a1), .val (.ref s1), .val (.ref s2)] [(.ref s2), (.ref a1)]))
  have f9 := (E2.wr W4)
  refine own_castY X7 hx hZ hown (hw _ (List.mem_of_getElem? (i := 48) rfl)) hh7 (Ins.self f9) (hb hby own_d_prog_22_method_1_code_20) rfl ?_
  intro T8 X8 e8
  have f10 := (Fa1_localName.other W4 (Or.inr (slot_ne (Or.inr (hw _ (List.mem_of_getElem? (i := 52) rfl))) (Or.inr (hw _ (List.mem_of_getElem? (i := 50) rfl))) (by decide) (t := (.object "java/lang/String")) (t' := (.object "java/lang/String")) (by decide) (by decide))))
  have f11 := (E0.wr W4)
  refine own_putF X8 hx hZ hown (host := "") (Or.inl (hw _ (List.mem_of_getElem? (i := 51) rfl))) Via.refl e8 f10 f11 (Or.inr ⟨(hw _ (List.mem_of_getElem? (i := 52) rfl)), rfl, hnm⟩) (hw _ (List.mem_of_getElem? (i := 1) rfl)) (ty := (.object "java/lang/String")) (by decide) rfl rfl N7 g_a1 (hb hby own_d_prog_22_method_1_code_23) rfl ?_
  intro T12 h12 X12 e12 W12 N12
  have K13 := K5.wr W12 (Or.inl (List.mem_of_getElem? (i := 0) rfl))
  have f14 := f10.same W12
  have f15 := (f6.other W12 (Or.inr (slot_ne (Or.inr (hw _ (List.mem_of_getElem? (i := 50) rfl))) (Or.inr (hw _ (List.mem_of_getElem? (i := 52) rfl))) (by decide) (t := (.object "java/lang/String")) (t' := (.object "java/lang/String")) (by decide) (by decide))))
  exact own_ret X12 hx hlocks hret (hb hby own_d_prog_22_method_1_code_26) (by decide) (by decide) ⟨rfl, N12, by rw [e12]; exact ⟨K13, f15, f14⟩⟩
set_option maxRecDepth 65536 in
set_option maxHeartbeats 40000000 in
theorem own_eqN (l : Launch) (Z : State) (a0 : Array Value) (hw : ∀ d ∈ tables_1, d.before a0 Z = true) (a1 : Addr) (h0 : Heap) (n0 : Nat)  :
    own_Met l (⟨"com/example/lockstitch/lockstitch/engine/tree/PropertyName", "equals", "(Ljava/lang/Object;)Z"⟩ : MethodName) prog_22_method_5_code 3 (some .boolean) ({ frames := 0, cells := 0, slots := 0, locals := 0 } : Room) Z #[(.ref a1), .null] h0 (fun v h L => v = some (.int 0) ∧ Fr n0 L ∧ h = h0) := by
  refine own_met (plainFor_of_name own_pn_com_example_lockstitch_lockstitch_engine_tree_PropertyName) ?_
  intro p e s m below meth c T0 hx hby hml hZ hown hnm hret hlocks X0 e0 hh0
  have ef : entryFrame m #[(.ref a1), .null] 3 = mkF m 0 #[.val (.ref a1), .val .null, .unset] [] := by first | (simp [entryFrame, mkF, argsToLocals, Value.category]; done) | rfl
  refine own_entry ef ?_
  have N0 := Fr.nil n0
  refine own_aloadN X0 hx (hb hby own_d_prog_22_method_5_code_0) rfl rfl rfl ?_
  refine own_instNull X0 hx (hb hby own_d_prog_22_method_5_code_1) rfl ?_
  refine own_ifT X0 hx (hb hby own_d_prog_22_method_5_code_4) (by decide) rfl (by decide) ?_
  refine own_iconst X0 hx (0 : Int32) (hb hby own_d_prog_22_method_5_code_44) (by decide) rfl ?_
  exact own_retN X0 hx hlocks hret (by simp) (hb hby own_d_prog_22_method_5_code_45) (by decide) (by decide) (by decide) ⟨rfl, N0, e0⟩
set_option maxRecDepth 65536 in
set_option maxHeartbeats 40000000 in
theorem own_eqS (l : Launch) (Z : State) (a0 : Array Value) (hw : ∀ d ∈ tables_1, d.before a0 Z = true) (a1 s1 : Addr) (h0 : Heap) (n0 : Nat) (E1 : Exa Z h0 s1 "java/lang/String") :
    own_Met l (⟨"com/example/lockstitch/lockstitch/engine/tree/PropertyName", "equals", "(Ljava/lang/Object;)Z"⟩ : MethodName) prog_22_method_5_code 3 (some .boolean) ({ frames := 0, cells := 0, slots := 0, locals := 0 } : Room) Z #[(.ref a1), (.ref s1)] h0 (fun v h L => v = some (.int 0) ∧ Fr n0 L ∧ h = h0) := by
  refine own_met (plainFor_of_name own_pn_com_example_lockstitch_lockstitch_engine_tree_PropertyName) ?_
  intro p e s m below meth c T0 hx hby hml hZ hown hnm hret hlocks X0 e0 hh0
  have ef : entryFrame m #[(.ref a1), (.ref s1)] 3 = mkF m 0 #[.val (.ref a1), .val (.ref s1), .unset] [] := by first | (simp [entryFrame, mkF, argsToLocals, Value.category]; done) | rfl
  refine own_entry ef ?_
  have N0 := Fr.nil n0
  refine own_aloadN X0 hx (hb hby own_d_prog_22_method_5_code_0) rfl rfl rfl ?_
  refine own_instN X0 hx hZ hown (hw _ (List.mem_of_getElem? (i := 58) rfl)) e0 E1 (own_notPN hw) (hb hby own_d_prog_22_method_5_code_1) rfl ?_
  intro T1 X1 e1
  refine own_ifT X1 hx (hb hby own_d_prog_22_method_5_code_4) (by decide) rfl (by decide) ?_
  refine own_iconst X1 hx (0 : Int32) (hb hby own_d_prog_22_method_5_code_44) (by decide) rfl ?_
  exact own_retN X1 hx hlocks hret (by simp) (hb hby own_d_prog_22_method_5_code_45) (by decide) (by decide) (by decide) ⟨rfl, N0, e1⟩
set_option maxRecDepth 65536 in
set_option maxHeartbeats 40000000 in
theorem own_eqP (l : Launch) (Z : State) (a0 : Array Value) (hw : ∀ d ∈ tables_1, d.before a0 Z = true) (a1 y1 s1 s2 s3 s4 : Addr) (cs ds cs' ds' : List Int32) (zc : Int32) (h0 : Heap) (n0 : Nat) (O0 : Old Z n0 h0) (SC : Sta Z Z.heap "java/lang/String" "COMPACT_STRINGS" "Z" (.int zc)) (hzc : ¬ zc = 0) (E1 : Exa Z h0 y1 "com/example/lockstitch/lockstitch/engine/tree/PropertyName") (F1 : Fld Z h0 a1 "com/example/lockstitch/lockstitch/engine/tree/PropertyName" "namespace" "Ljava/lang/String;" (.ref s1)) (F2 : Fld Z h0 a1 "com/example/lockstitch/lockstitch/engine/tree/PropertyName" "localName" "Ljava/lang/String;" (.ref s2)) (F3 : Fld Z h0 y1 "com/example/lockstitch/lockstitch/engine/tree/PropertyName" "namespace" "Ljava/lang/String;" (.ref s3)) (F4 : Fld Z h0 y1 "com/example/lockstitch/lockstitch/engine/tree/PropertyName" "localName" "Ljava/lang/String;" (.ref s4)) (S1 : own_Str Z h0 s1 cs) (S2 : own_Str Z h0 s2 ds) (S3 : own_Str Z h0 s3 cs') (S4 : own_Str Z h0 s4 ds') :
    own_Met l (⟨"com/example/lockstitch/lockstitch/engine/tree/PropertyName", "equals", "(Ljava/lang/Object;)Z"⟩ : MethodName) prog_22_method_5_code 3 (some .boolean) ({ frames := 2, cells := 0, slots := 0, locals := 28 } : Room) Z #[(.ref a1), (.ref y1)] h0 (fun v h L => v = some (.int (own_eqp cs' cs ds' ds)) ∧ Fr n0 L ∧ h = h0) := by
  refine own_met (plainFor_of_name own_pn_com_example_lockstitch_lockstitch_engine_tree_PropertyName) ?_
  intro p e s m below meth c T0 hx hby hml hZ hown hnm hret hlocks X0 e0 hh0
  have ef : entryFrame m #[(.ref a1), (.ref y1)] 3 = mkF m 0 #[.val (.ref a1), .val (.ref y1), .unset] [] := by first | (simp [entryFrame, mkF, argsToLocals, Value.category]; done) | rfl
  refine own_entry ef ?_
  have N0 := Fr.nil n0
  obtain ⟨t1, kb1, cd1, Nn1, vs1, Es1, Vs1, Cs1, Ks1, cod1, hbd1, hle1⟩ := S1
  obtain ⟨t2, kb2, cd2, Nn2, vs2, Es2, Vs2, Cs2, Ks2, cod2, hbd2, hle2⟩ := S2
  obtain ⟨t3, kb3, cd3, Nn3, vs3, Es3, Vs3, Cs3, Ks3, cod3, hbd3, hle3⟩ := S3
  obtain ⟨t4, kb4, cd4, Nn4, vs4, Es4, Vs4, Cs4, Ks4, cod4, hbd4, hle4⟩ := S4
  refine own_aloadN X0 hx (hb hby own_d_prog_22_method_5_code_0) rfl rfl rfl ?_
  refine own_instY X0 hx hZ hown (hw _ (List.mem_of_getElem? (i := 58) rfl)) e0 (Ins.self E1) (hb hby own_d_prog_22_method_5_code_1) rfl ?_
  intro T1 X1 e1
  refine own_ifF X1 hx (hb hby own_d_prog_22_method_5_code_4) rfl (by decide) ?_
  refine own_aloadN X1 hx (hb hby own_d_prog_22_method_5_code_7) rfl rfl rfl ?_
  refine own_castY X1 hx hZ hown (hw _ (List.mem_of_getElem? (i := 58) rfl)) e1 (Ins.self E1) (hb hby own_d_prog_22_method_5_code_8) rfl ?_
  intro T2 X2 e2
  refine own_astoreN X2 hx #[.val (.ref a1), .val (.ref y1), .val (.ref y1)] (hb hby own_d_prog_22_method_5_code_11) rfl rfl rfl ?_
  refine own_aloadN X2 hx (hb hby own_d_prog_22_method_5_code_12) rfl rfl rfl ?_
  refine own_getF X2 hx hZ hown (host := "") (Or.inl (hw _ (List.mem_of_getElem? (i := 49) rfl))) Via.refl e2 F3 (hb hby own_d_prog_22_method_5_code_13) rfl ?_
  intro T3 X3 e3
  refine own_aloadN X3 hx (hb hby own_d_prog_22_method_5_code_16) rfl rfl rfl ?_
  refine own_getF X3 hx hZ hown (host := "") (Or.inl (hw _ (List.mem_of_getElem? (i := 49) rfl))) Via.refl e3 F1 (hb hby own_d_prog_22_method_5_code_17) rfl ?_
  intro T4 X4 e4
  refine own_virtualB X4 hx hZ (y := (⟨"java/lang/String", "equals", "(Ljava/lang/Object;)Z"⟩ : MethodName)) (z := (⟨"java/lang/String", "equals", "(Ljava/lang/Object;)Z"⟩ : MethodName)) hown (hw _ (List.mem_of_getElem? (i := 60) rfl)) (hw _ (List.mem_of_getElem? (i := 61) rfl)) (notFace_of_selects (args := #[]) (mvT hZ (hw _ (List.mem_of_getElem? (i := 63) rfl)))) (hw _ (List.mem_of_getElem? (i := 63) rfl)) (hw _ (List.mem_of_getElem? (i := 62) rfl)) (by decide) e4 (W := 0) (ce := 0) (sl := 0) (by decide) (by decide) [(.ref s1)] [] (by rw [hml]; rfl) Es3 (fun v h' L => ((v = some (.int 1) ∧ cs' = cs) ∨ (v = some (.int 0) ∧ ¬ cs' = cs)) ∧ L = [] ∧ h' = h0) (StrChars.Road.eqW (W := 0) hZ (own_heq hw) (kI := 4) (hw _ (List.mem_of_getElem? (i := 8) rfl)) Es3 Vs3 Cs3 Ks3 cod3 hbd3 hle3 Es1 Vs1 Cs1 Ks1 cod1 hbd1 hle1 (SC.ext O0.2) hzc (by decide) (by decide)) own_pd7 rfl rfl rfl (hb hby own_d_prog_22_method_5_code_20) rfl ?_
  intro v5 T5 L5 X5 hQ5
  obtain ⟨hv5, rfl, hh5⟩ := hQ5
  have N5 := Fr.app N0 (Fr.nil n0)
  obtain rfl : v5 = some (.int (if cs' = cs then (1 : Int32) else 0)) := by rcases hv5 with ⟨rfl, q⟩ | ⟨rfl, q⟩ <;> simp [q]
  show own_Ends p e below _ (T5.setTop (mkF m 23 #[.val (.ref a1), .val (.ref y1), .val (.ref y1)] [(.int (if cs' = cs then (1 : Int32) else 0))]))
  refine own_if_eq X5 hx (hb hby own_d_prog_22_method_5_code_23) (by decide) rfl rfl (fun hc23_6 => ?_) (fun hc23_6 => ?_)
  · refine own_iconst X5 hx (0 : Int32) (hb hby own_d_prog_22_method_5_code_44) (by decide) rfl ?_
    exact own_retN X5 hx hlocks hret (by simp) (hb hby own_d_prog_22_method_5_code_45) (by decide) (by decide) (by decide) ⟨congrArg (fun q => some (Value.int q)) (by simp_all [own_eqp]), N5, hh5⟩
  · refine own_aloadN X5 hx (hb hby own_d_prog_22_method_5_code_26) rfl rfl rfl ?_
    refine own_getF X5 hx hZ hown (host := "") (Or.inl (hw _ (List.mem_of_getElem? (i := 51) rfl))) Via.refl hh5 F4 (hb hby own_d_prog_22_method_5_code_27) rfl ?_
    intro T7 X7 e7
    refine own_aloadN X7 hx (hb hby own_d_prog_22_method_5_code_30) rfl rfl rfl ?_
    refine own_getF X7 hx hZ hown (host := "") (Or.inl (hw _ (List.mem_of_getElem? (i := 51) rfl))) Via.refl e7 F2 (hb hby own_d_prog_22_method_5_code_31) rfl ?_
    intro T8 X8 e8
    refine own_virtualB X8 hx hZ (y := (⟨"java/lang/String", "equals", "(Ljava/lang/Object;)Z"⟩ : MethodName)) (z := (⟨"java/lang/String", "equals", "(Ljava/lang/Object;)Z"⟩ : MethodName)) hown (hw _ (List.mem_of_getElem? (i := 60) rfl)) (hw _ (List.mem_of_getElem? (i := 61) rfl)) (notFace_of_selects (args := #[]) (mvT hZ (hw _ (List.mem_of_getElem? (i := 63) rfl)))) (hw _ (List.mem_of_getElem? (i := 63) rfl)) (hw _ (List.mem_of_getElem? (i := 62) rfl)) (by decide) e8 (W := 0) (ce := 0) (sl := 0) (by decide) (by decide) [(.ref s2)] [] (by rw [hml]; rfl) Es4 (fun v h' L => ((v = some (.int 1) ∧ ds' = ds) ∨ (v = some (.int 0) ∧ ¬ ds' = ds)) ∧ L = [] ∧ h' = h0) (StrChars.Road.eqW (W := 0) hZ (own_heq hw) (kI := 4) (hw _ (List.mem_of_getElem? (i := 8) rfl)) Es4 Vs4 Cs4 Ks4 cod4 hbd4 hle4 Es2 Vs2 Cs2 Ks2 cod2 hbd2 hle2 (SC.ext O0.2) hzc (by decide) (by decide)) own_pd7 rfl rfl rfl (hb hby own_d_prog_22_method_5_code_34) rfl ?_
    intro v9 T9 L9 X9 hQ9
    obtain ⟨hv9, rfl, hh9⟩ := hQ9
    have N9 := Fr.app N5 (Fr.nil n0)
    obtain rfl : v9 = some (.int (if ds' = ds then (1 : Int32) else 0)) := by rcases hv9 with ⟨rfl, q⟩ | ⟨rfl, q⟩ <;> simp [q]
    show own_Ends p e below _ (T9.setTop (mkF m 37 #[.val (.ref a1), .val (.ref y1), .val (.ref y1)] [(.int (if ds' = ds then (1 : Int32) else 0))]))
    refine own_if_eq X9 hx (hb hby own_d_prog_22_method_5_code_37) (by decide) rfl rfl (fun hc37_10 => ?_) (fun hc37_10 => ?_)
    · refine own_iconst X9 hx (0 : Int32) (hb hby own_d_prog_22_method_5_code_44) (by decide) rfl ?_
      exact own_retN X9 hx hlocks hret (by simp) (hb hby own_d_prog_22_method_5_code_45) (by decide) (by decide) (by decide) ⟨congrArg (fun q => some (Value.int q)) (by simp_all [own_eqp]), N9, hh9⟩
    · refine own_iconst X9 hx (1 : Int32) (hb hby own_d_prog_22_method_5_code_40) (by decide) rfl ?_
      refine own_goto X9 hx (hb hby own_d_prog_22_method_5_code_41) (by decide) rfl ?_
      exact own_retN X9 hx hlocks hret (by simp) (hb hby own_d_prog_22_method_5_code_45) (by decide) (by decide) (by decide) ⟨congrArg (fun q => some (Value.int q)) (by simp_all [own_eqp]), N9, hh9⟩
set_option maxRecDepth 65536 in
set_option maxHeartbeats 40000000 in
theorem own_sm (l : Launch) (Z : State) (a0 : Array Value) (hw : ∀ d ∈ tables_1, d.before a0 Z = true) (la a0_ a1_ lb b0_ b1_ : Int32) (h0 : Heap) (n0 : Nat)  :
    own_Met l (⟨"com/example/lockstitch/lockstitch/engine/tree/PropertyNameEqualsPinLaw", "same", "(ICCICC)Z"⟩ : MethodName) method_3_code 6 (some .boolean) ({ frames := 0, cells := 0, slots := 0, locals := 0 } : Room) Z #[(.int la), (.int a0_), (.int a1_), (.int lb), (.int b0_), (.int b1_)] h0 (fun v h L => v = some (.int (own_same la a0_ a1_ lb b0_ b1_)) ∧ Fr n0 L ∧ h = h0) := by
  refine own_met (plainFor_of_name own_pn_com_example_lockstitch_lockstitch_engine_tree_PropertyNameEqualsPinLaw) ?_
  intro p e s m below meth c T0 hx hby hml hZ hown hnm hret hlocks X0 e0 hh0
  have ef : entryFrame m #[(.int la), (.int a0_), (.int a1_), (.int lb), (.int b0_), (.int b1_)] 6 = mkF m 0 #[.val (.int la), .val (.int a0_), .val (.int a1_), .val (.int lb), .val (.int b0_), .val (.int b1_)] [] := by first | (simp [entryFrame, mkF, argsToLocals, Value.category]; done) | rfl
  refine own_entry ef ?_
  have N0 := Fr.nil n0
  refine own_iloadN X0 hx (hb hby own_d_method_3_code_0) rfl rfl ?_
  refine own_iloadN X0 hx (hb hby own_d_method_3_code_1) rfl rfl ?_
  refine own_icmp_ne X0 hx (hb hby own_d_method_3_code_2) (by decide) rfl rfl (fun hc2_1 => ?_) (fun hc2_1 => ?_)
  · refine own_iconst X0 hx (0 : Int32) (hb hby own_d_method_3_code_31) (by decide) rfl ?_
    exact own_retN X0 hx hlocks hret (by simp) (hb hby own_d_method_3_code_32) (by decide) (by decide) (by decide) ⟨congrArg (fun q => some (Value.int q)) (by simp only [own_same, if_neg hc2_1]), N0, e0⟩
  · refine own_iloadN X0 hx (hb hby own_d_method_3_code_5) rfl rfl ?_
    refine own_iconst X0 hx (1 : Int32) (hb hby own_d_method_3_code_6) (by decide) rfl ?_
    refine own_icmp_lt X0 hx (hb hby own_d_method_3_code_7) (by decide) rfl rfl (fun hc7_2 => ?_) (fun hc7_2 => ?_)
    · refine own_iloadN X0 hx (hb hby own_d_method_3_code_16) rfl rfl ?_
      refine own_iconst X0 hx (2 : Int32) (hb hby own_d_method_3_code_17) (by decide) rfl ?_
      refine own_icmp_lt X0 hx (hb hby own_d_method_3_code_18) (by decide) rfl rfl (fun hc18_3 => ?_) (fun hc18_3 => ?_)
      · refine own_iconst X0 hx (1 : Int32) (hb hby own_d_method_3_code_27) (by decide) rfl ?_
        refine own_goto X0 hx (hb hby own_d_method_3_code_28) (by decide) rfl ?_
        exact own_retN X0 hx hlocks hret (by simp) (hb hby own_d_method_3_code_32) (by decide) (by decide) (by decide) ⟨congrArg (fun q => some (Value.int q)) (by simp only [own_same, if_pos hc2_1, if_pos hc7_2, if_pos hc18_3]), N0, e0⟩
      · refine own_iloadN X0 hx (hb hby own_d_method_3_code_21) rfl rfl ?_
        refine own_iload X0 hx (hb hby own_d_method_3_code_22) rfl rfl ?_
        refine own_icmp_ne X0 hx (hb hby own_d_method_3_code_24) (by decide) rfl rfl (fun hc24_4 => ?_) (fun hc24_4 => ?_)
        · refine own_iconst X0 hx (0 : Int32) (hb hby own_d_method_3_code_31) (by decide) rfl ?_
          exact own_retN X0 hx hlocks hret (by simp) (hb hby own_d_method_3_code_32) (by decide) (by decide) (by decide) ⟨congrArg (fun q => some (Value.int q)) (by simp only [own_same, if_pos hc2_1, if_pos hc7_2, if_neg hc18_3, if_neg hc24_4]), N0, e0⟩
        · refine own_iconst X0 hx (1 : Int32) (hb hby own_d_method_3_code_27) (by decide) rfl ?_
          refine own_goto X0 hx (hb hby own_d_method_3_code_28) (by decide) rfl ?_
          exact own_retN X0 hx hlocks hret (by simp) (hb hby own_d_method_3_code_32) (by decide) (by decide) (by decide) ⟨congrArg (fun q => some (Value.int q)) (by simp only [own_same, if_pos hc2_1, if_pos hc7_2, if_neg hc18_3, if_pos hc24_4]), N0, e0⟩
    · refine own_iloadN X0 hx (hb hby own_d_method_3_code_10) rfl rfl ?_
      refine own_iload X0 hx (hb hby own_d_method_3_code_11) rfl rfl ?_
      refine own_icmp_ne X0 hx (hb hby own_d_method_3_code_13) (by decide) rfl rfl (fun hc13_5 => ?_) (fun hc13_5 => ?_)
      · refine own_iconst X0 hx (0 : Int32) (hb hby own_d_method_3_code_31) (by decide) rfl ?_
        exact own_retN X0 hx hlocks hret (by simp) (hb hby own_d_method_3_code_32) (by decide) (by decide) (by decide) ⟨congrArg (fun q => some (Value.int q)) (by simp only [own_same, if_pos hc2_1, if_neg hc7_2, if_neg hc13_5]), N0, e0⟩
      · refine own_iloadN X0 hx (hb hby own_d_method_3_code_16) rfl rfl ?_
        refine own_iconst X0 hx (2 : Int32) (hb hby own_d_method_3_code_17) (by decide) rfl ?_
        refine own_icmp_lt X0 hx (hb hby own_d_method_3_code_18) (by decide) rfl rfl (fun hc18_6 => ?_) (fun hc18_6 => ?_)
        · refine own_iconst X0 hx (1 : Int32) (hb hby own_d_method_3_code_27) (by decide) rfl ?_
          refine own_goto X0 hx (hb hby own_d_method_3_code_28) (by decide) rfl ?_
          exact own_retN X0 hx hlocks hret (by simp) (hb hby own_d_method_3_code_32) (by decide) (by decide) (by decide) ⟨congrArg (fun q => some (Value.int q)) (by simp only [own_same, if_pos hc2_1, if_neg hc7_2, if_pos hc13_5, if_pos hc18_6]), N0, e0⟩
        · refine own_iloadN X0 hx (hb hby own_d_method_3_code_21) rfl rfl ?_
          refine own_iload X0 hx (hb hby own_d_method_3_code_22) rfl rfl ?_
          refine own_icmp_ne X0 hx (hb hby own_d_method_3_code_24) (by decide) rfl rfl (fun hc24_7 => ?_) (fun hc24_7 => ?_)
          · refine own_iconst X0 hx (0 : Int32) (hb hby own_d_method_3_code_31) (by decide) rfl ?_
            exact own_retN X0 hx hlocks hret (by simp) (hb hby own_d_method_3_code_32) (by decide) (by decide) (by decide) ⟨congrArg (fun q => some (Value.int q)) (by simp only [own_same, if_pos hc2_1, if_neg hc7_2, if_pos hc13_5, if_neg hc18_6, if_neg hc24_7]), N0, e0⟩
          · refine own_iconst X0 hx (1 : Int32) (hb hby own_d_method_3_code_27) (by decide) rfl ?_
            refine own_goto X0 hx (hb hby own_d_method_3_code_28) (by decide) rfl ?_
            exact own_retN X0 hx hlocks hret (by simp) (hb hby own_d_method_3_code_32) (by decide) (by decide) (by decide) ⟨congrArg (fun q => some (Value.int q)) (by simp only [own_same, if_pos hc2_1, if_neg hc7_2, if_pos hc13_5, if_neg hc18_6, if_pos hc24_7]), N0, e0⟩
set_option maxRecDepth 65536 in
set_option maxHeartbeats 40000000 in
theorem own_law (l : Launch) (Z : State) (a0 : Array Value) (hw : ∀ d ∈ tables_1, d.before a0 Z = true) (p1 p2 p3 zc : Int32) (h0 : Heap) (n0 : Nat) (hEL : EW Z a0 consts_1) (O0 : Old Z n0 h0) (SC : Sta Z Z.heap "java/lang/String" "COMPACT_STRINGS" "Z" (.int zc)) (hzc : ¬ zc = 0) :
    own_MetH l x code maxLocals ret room_1 Z consts_1 #[(.int p1), (.int p2), (.int p3)] h0 (fun v h L => v = some (.int 1) ∧ Fr n0 L) := by
  refine own_metH (plainFor_of_name own_pn_com_example_lockstitch_lockstitch_engine_tree_PropertyNameEqualsPinLaw) ?_
  intro p e s m below meth c T0 hx hby hml hZ hown hnm hret hlocks X0 e0 hh0 HH0
  have ef : entryFrame m #[(.int p1), (.int p2), (.int p3)] maxLocals = mkF m 0 #[.val (.int p1), .val (.int p2), .val (.int p3), .unset, .unset, .unset, .unset, .unset, .unset, .unset, .unset, .unset, .unset, .unset, .unset, .unset, .unset, .unset, .unset, .unset, .unset, .unset] [] := by first | (simp [entryFrame, mkF, argsToLocals, Value.category, maxLocals]; done) | rfl
  refine own_entry ef ?_
  have N0 := Fr.nil n0
  refine own_iloadN X0 hx (hb hby at_0) rfl rfl ?_
  refine own_iconst X0 hx (3 : Int32) (hb hby at_1) (by decide) rfl ?_
  refine own_iand X0 hx (hb hby at_2) rfl ?_
  refine own_iconst X0 hx (3 : Int32) (hb hby at_3) (by decide) rfl ?_
  refine own_irem X0 hx (hb hby at_4) (by decide) rfl ?_
  have hn1 := own_m3 p3
  generalize ((p3 &&& (3 : Int32)) % (3 : Int32)) = n1 at hn1 ⊢
  refine own_istoreN X0 hx #[.val (.int p1), .val (.int p2), .val (.int p3), .val (.int n1), .unset, .unset, .unset, .unset, .unset, .unset, .unset, .unset, .unset, .unset, .unset, .unset, .unset, .unset, .unset, .unset, .unset, .unset] (hb hby at_5) rfl rfl ?_
  refine own_iloadN X0 hx (hb hby at_6) rfl rfl ?_
  refine own_iconst X0 hx (2 : Int32) (hb hby at_7) (by decide) rfl ?_
  refine own_iushr X0 hx (hb hby at_8) rfl ?_
  refine own_iconst X0 hx (3 : Int32) (hb hby at_9) (by decide) rfl ?_
  refine own_iand X0 hx (hb hby at_10) rfl ?_
  refine own_iconst X0 hx (3 : Int32) (hb hby at_11) (by decide) rfl ?_
  refine own_irem X0 hx (hb hby at_12) (by decide) rfl ?_
  have hl1 := own_m3 (own_ushr p3 (2 : Int32))
  generalize (((own_ushr p3 (2 : Int32)) &&& (3 : Int32)) % (3 : Int32)) = l1 at hl1 ⊢
  refine own_istore X0 hx #[.val (.int p1), .val (.int p2), .val (.int p3), .val (.int n1), .val (.int l1), .unset, .unset, .unset, .unset, .unset, .unset, .unset, .unset, .unset, .unset, .unset, .unset, .unset, .unset, .unset, .unset, .unset] (hb hby at_13) rfl rfl ?_
  refine own_iloadN X0 hx (hb hby at_15) rfl rfl ?_
  refine own_iconst X0 hx (4 : Int32) (hb hby at_16) (by decide) rfl ?_
  refine own_iushr X0 hx (hb hby at_17) rfl ?_
  refine own_iconst X0 hx (3 : Int32) (hb hby at_18) (by decide) rfl ?_
  refine own_iand X0 hx (hb hby at_19) rfl ?_
  refine own_iconst X0 hx (3 : Int32) (hb hby at_20) (by decide) rfl ?_
  refine own_irem X0 hx (hb hby at_21) (by decide) rfl ?_
  have hn2 := own_m3 (own_ushr p3 (4 : Int32))
  generalize (((own_ushr p3 (4 : Int32)) &&& (3 : Int32)) % (3 : Int32)) = n2 at hn2 ⊢
  refine own_istore X0 hx #[.val (.int p1), .val (.int p2), .val (.int p3), .val (.int n1), .val (.int l1), .val (.int n2), .unset, .unset, .unset, .unset, .unset, .unset, .unset, .unset, .unset, .unset, .unset, .unset, .unset, .unset, .unset, .unset] (hb hby at_22) rfl rfl ?_
  refine own_iloadN X0 hx (hb hby at_24) rfl rfl ?_
  refine own_bipush X0 hx (6 : Int32) (hb hby at_25) (by decide) rfl ?_
  refine own_iushr X0 hx (hb hby at_27) rfl ?_
  refine own_iconst X0 hx (3 : Int32) (hb hby at_28) (by decide) rfl ?_
  refine own_iand X0 hx (hb hby at_29) rfl ?_
  refine own_iconst X0 hx (3 : Int32) (hb hby at_30) (by decide) rfl ?_
  refine own_irem X0 hx (hb hby at_31) (by decide) rfl ?_
  have hl2 := own_m3 (own_ushr p3 (6 : Int32))
  generalize (((own_ushr p3 (6 : Int32)) &&& (3 : Int32)) % (3 : Int32)) = l2 at hl2 ⊢
  refine own_istore X0 hx #[.val (.int p1), .val (.int p2), .val (.int p3), .val (.int n1), .val (.int l1), .val (.int n2), .val (.int l2), .unset, .unset, .unset, .unset, .unset, .unset, .unset, .unset, .unset, .unset, .unset, .unset, .unset, .unset, .unset] (hb hby at_32) rfl rfl ?_
  refine own_iloadN X0 hx (hb hby at_34) rfl rfl ?_
  refine own_bipush X0 hx (8 : Int32) (hb hby at_35) (by decide) rfl ?_
  refine own_iushr X0 hx (hb hby at_37) rfl ?_
  refine own_iconst X0 hx (3 : Int32) (hb hby at_38) (by decide) rfl ?_
  refine own_iand X0 hx (hb hby at_39) rfl ?_
  have hmo := own_and3 (own_ushr p3 (8 : Int32))
  generalize ((own_ushr p3 (8 : Int32)) &&& (3 : Int32)) = mo at hmo ⊢
  refine own_istore X0 hx #[.val (.int p1), .val (.int p2), .val (.int p3), .val (.int n1), .val (.int l1), .val (.int n2), .val (.int l2), .val (.int mo), .unset, .unset, .unset, .unset, .unset, .unset, .unset, .unset, .unset, .unset, .unset, .unset, .unset, .unset] (hb hby at_40) rfl rfl ?_
  refine own_iload X0 hx (hb hby at_42) rfl rfl ?_
  refine own_iconst X0 hx (1 : Int32) (hb hby at_44) (by decide) rfl ?_
  refine own_icmp_ne X0 hx (hb hby at_45) (by decide) rfl rfl (fun hc45_1 => ?_) (fun hc45_1 => ?_)
  · refine own_iloadN X0 hx (hb hby at_52) rfl rfl ?_
    refine own_istore X0 hx #[.val (.int p1), .val (.int p2), .val (.int p3), .val (.int n1), .val (.int l1), .val (.int n2), .val (.int l2), .val (.int mo), .val (.int p2), .unset, .unset, .unset, .unset, .unset, .unset, .unset, .unset, .unset, .unset, .unset, .unset, .unset] (hb hby at_53) rfl rfl ?_
    refine own_iloadN X0 hx (hb hby at_55) rfl rfl ?_
    refine own_sipush X0 hx (255 : Int32) (hb hby at_56) (by decide) rfl ?_
    refine own_iand X0 hx (hb hby at_59) rfl ?_
    refine own_i2c X0 hx (hb hby at_60) rfl ?_
    have hc2 := own_ch p1
    generalize ((p1 &&& (255 : Int32)).toUInt32.toUInt16.toUInt32.toInt32) = c2 at hc2 ⊢
    refine own_istore X0 hx #[.val (.int p1), .val (.int p2), .val (.int p3), .val (.int n1), .val (.int l1), .val (.int n2), .val (.int l2), .val (.int mo), .val (.int p2), .val (.int c2), .unset, .unset, .unset, .unset, .unset, .unset, .unset, .unset, .unset, .unset, .unset, .unset] (hb hby at_61) rfl rfl ?_
    refine own_iloadN X0 hx (hb hby at_63) rfl rfl ?_
    refine own_bipush X0 hx (8 : Int32) (hb hby at_64) (by decide) rfl ?_
    refine own_iushr X0 hx (hb hby at_66) rfl ?_
    refine own_sipush X0 hx (255 : Int32) (hb hby at_67) (by decide) rfl ?_
    refine own_iand X0 hx (hb hby at_70) rfl ?_
    refine own_i2c X0 hx (hb hby at_71) rfl ?_
    have hc3 := own_ch (own_ushr p1 (8 : Int32))
    generalize (((own_ushr p1 (8 : Int32)) &&& (255 : Int32)).toUInt32.toUInt16.toUInt32.toInt32) = c3 at hc3 ⊢
    refine own_istore X0 hx #[.val (.int p1), .val (.int p2), .val (.int p3), .val (.int n1), .val (.int l1), .val (.int n2), .val (.int l2), .val (.int mo), .val (.int p2), .val (.int c2), .val (.int c3), .unset, .unset, .unset, .unset, .unset, .unset, .unset, .unset, .unset, .unset, .unset] (hb hby at_72) rfl rfl ?_
    refine own_iloadN X0 hx (hb hby at_74) rfl rfl ?_
    refine own_bipush X0 hx (16 : Int32) (hb hby at_75) (by decide) rfl ?_
    refine own_iushr X0 hx (hb hby at_77) rfl ?_
    refine own_sipush X0 hx (255 : Int32) (hb hby at_78) (by decide) rfl ?_
    refine own_iand X0 hx (hb hby at_81) rfl ?_
    refine own_i2c X0 hx (hb hby at_82) rfl ?_
    have hc4 := own_ch (own_ushr p1 (16 : Int32))
    generalize (((own_ushr p1 (16 : Int32)) &&& (255 : Int32)).toUInt32.toUInt16.toUInt32.toInt32) = c4 at hc4 ⊢
    refine own_istore X0 hx #[.val (.int p1), .val (.int p2), .val (.int p3), .val (.int n1), .val (.int l1), .val (.int n2), .val (.int l2), .val (.int mo), .val (.int p2), .val (.int c2), .val (.int c3), .val (.int c4), .unset, .unset, .unset, .unset, .unset, .unset, .unset, .unset, .unset, .unset] (hb hby at_83) rfl rfl ?_
    refine own_iloadN X0 hx (hb hby at_85) rfl rfl ?_
    refine own_bipush X0 hx (24 : Int32) (hb hby at_86) (by decide) rfl ?_
    refine own_iushr X0 hx (hb hby at_88) rfl ?_
    refine own_sipush X0 hx (255 : Int32) (hb hby at_89) (by decide) rfl ?_
    refine own_iand X0 hx (hb hby at_92) rfl ?_
    refine own_i2c X0 hx (hb hby at_93) rfl ?_
    have hc5 := own_ch (own_ushr p1 (24 : Int32))
    generalize (((own_ushr p1 (24 : Int32)) &&& (255 : Int32)).toUInt32.toUInt16.toUInt32.toInt32) = c5 at hc5 ⊢
    refine own_istore X0 hx #[.val (.int p1), .val (.int p2), .val (.int p3), .val (.int n1), .val (.int l1), .val (.int n2), .val (.int l2), .val (.int mo), .val (.int p2), .val (.int c2), .val (.int c3), .val (.int c4), .val (.int c5), .unset, .unset, .unset, .unset, .unset, .unset, .unset, .unset, .unset] (hb hby at_94) rfl rfl ?_
    refine own_iload X0 hx (hb hby at_96) rfl rfl ?_
    refine own_sipush X0 hx (255 : Int32) (hb hby at_98) (by decide) rfl ?_
    refine own_iand X0 hx (hb hby at_101) rfl ?_
    refine own_i2c X0 hx (hb hby at_102) rfl ?_
    have hc6 := own_ch p2
    generalize ((p2 &&& (255 : Int32)).toUInt32.toUInt16.toUInt32.toInt32) = c6 at hc6 ⊢
    refine own_istore X0 hx #[.val (.int p1), .val (.int p2), .val (.int p3), .val (.int n1), .val (.int l1), .val (.int n2), .val (.int l2), .val (.int mo), .val (.int p2), .val (.int c2), .val (.int c3), .val (.int c4), .val (.int c5), .val (.int c6), .unset, .unset, .unset, .unset, .unset, .unset, .unset, .unset] (hb hby at_103) rfl rfl ?_
    refine own_iload X0 hx (hb hby at_105) rfl rfl ?_
    refine own_bipush X0 hx (8 : Int32) (hb hby at_107) (by decide) rfl ?_
    refine own_iushr X0 hx (hb hby at_109) rfl ?_
    refine own_sipush X0 hx (255 : Int32) (hb hby at_110) (by decide) rfl ?_
    refine own_iand X0 hx (hb hby at_113) rfl ?_
    refine own_i2c X0 hx (hb hby at_114) rfl ?_
    have hc7 := own_ch (own_ushr p2 (8 : Int32))
    generalize (((own_ushr p2 (8 : Int32)) &&& (255 : Int32)).toUInt32.toUInt16.toUInt32.toInt32) = c7 at hc7 ⊢
    refine own_istore X0 hx #[.val (.int p1), .val (.int p2), .val (.int p3), .val (.int n1), .val (.int l1), .val (.int n2), .val (.int l2), .val (.int mo), .val (.int p2), .val (.int c2), .val (.int c3), .val (.int c4), .val (.int c5), .val (.int c6), .val (.int c7), .unset, .unset, .unset, .unset, .unset, .unset, .unset] (hb hby at_115) rfl rfl ?_
    refine own_iload X0 hx (hb hby at_117) rfl rfl ?_
    refine own_bipush X0 hx (16 : Int32) (hb hby at_119) (by decide) rfl ?_
    refine own_iushr X0 hx (hb hby at_121) rfl ?_
    refine own_sipush X0 hx (255 : Int32) (hb hby at_122) (by decide) rfl ?_
    refine own_iand X0 hx (hb hby at_125) rfl ?_
    refine own_i2c X0 hx (hb hby at_126) rfl ?_
    have hc8 := own_ch (own_ushr p2 (16 : Int32))
    generalize (((own_ushr p2 (16 : Int32)) &&& (255 : Int32)).toUInt32.toUInt16.toUInt32.toInt32) = c8 at hc8 ⊢
    refine own_istore X0 hx #[.val (.int p1), .val (.int p2), .val (.int p3), .val (.int n1), .val (.int l1), .val (.int n2), .val (.int l2), .val (.int mo), .val (.int p2), .val (.int c2), .val (.int c3), .val (.int c4), .val (.int c5), .val (.int c6), .val (.int c7), .val (.int c8), .unset, .unset, .unset, .unset, .unset, .unset] (hb hby at_127) rfl rfl ?_
    refine own_iload X0 hx (hb hby at_129) rfl rfl ?_
    refine own_bipush X0 hx (24 : Int32) (hb hby at_131) (by decide) rfl ?_
    refine own_iushr X0 hx (hb hby at_133) rfl ?_
    refine own_sipush X0 hx (255 : Int32) (hb hby at_134) (by decide) rfl ?_
    refine own_iand X0 hx (hb hby at_137) rfl ?_
    refine own_i2c X0 hx (hb hby at_138) rfl ?_
    have hc9 := own_ch (own_ushr p2 (24 : Int32))
    generalize (((own_ushr p2 (24 : Int32)) &&& (255 : Int32)).toUInt32.toUInt16.toUInt32.toInt32) = c9 at hc9 ⊢
    refine own_istore X0 hx #[.val (.int p1), .val (.int p2), .val (.int p3), .val (.int n1), .val (.int l1), .val (.int n2), .val (.int l2), .val (.int mo), .val (.int p2), .val (.int c2), .val (.int c3), .val (.int c4), .val (.int c5), .val (.int c6), .val (.int c7), .val (.int c8), .val (.int c9), .unset, .unset, .unset, .unset, .unset] (hb hby at_139) rfl rfl ?_
    refine own_new X0 hx hZ hown (hw _ (List.mem_of_getElem? (i := 0) rfl)) (hw _ (List.mem_of_getElem? (i := 1) rfl)) (hw _ (List.mem_of_getElem? (i := 2) rfl)) e0 (hb hby at_141) (by decide) (by decide) rfl ?_
    intro T10 h10 b10 X10 e10 g10 E10 A10 D10
    have g_b10 : n0 ≤ b10 := Nat.le_trans (own_oz O0) (Nat.le_of_eq g10.symm)
    have HH11 := HH0.ext E10
    have Fb10_namespace : Fld Z h10 b10 "com/example/lockstitch/lockstitch/engine/tree/PropertyName" "namespace" "Ljava/lang/String;" .null := D10 (Or.inr (hw _ (List.mem_of_getElem? (i := 50) rfl))) (ty := (.object "java/lang/String")) (by decide)
    have Fb10_localName : Fld Z h10 b10 "com/example/lockstitch/lockstitch/engine/tree/PropertyName" "localName" "Ljava/lang/String;" .null := D10 (Or.inr (hw _ (List.mem_of_getElem? (i := 52) rfl))) (ty := (.object "java/lang/String")) (by decide)
    refine own_dup X10 hx (hb hby at_144) rfl rfl ?_
    refine own_iloadN X10 hx (hb hby at_145) rfl rfl ?_
    refine own_iload X10 hx (hb hby at_146) rfl rfl ?_
    refine own_iload X10 hx (hb hby at_148) rfl rfl ?_
    have f12 := (O0.ext E10)
    refine own_staticH X10 hx hZ (y := (⟨"com/example/lockstitch/lockstitch/engine/tree/PropertyNameEqualsPinLaw", "mk", "(ICC)Ljava/lang/String;"⟩ : MethodName)) hown (hw _ (List.mem_of_getElem? (i := 3) rfl)) (hw _ (List.mem_of_getElem? (i := 4) rfl)) (hw _ (List.mem_of_getElem? (i := 5) rfl)) (hw _ (List.mem_of_getElem? (i := 6) rfl)) (by decide) HH11 hEL e10 (by decide) (W := 2) (by decide) (by decide) (by decide) [(.int n1), (.int c2), (.int c3)] [(.ref b10), (.ref b10)] (by rw [hml]; rfl) (own_mk l Z a0 hw n1 c2 c3 zc h10 n0 hEL f12 hc2 hc3 SC hzc) own_pd8 rfl rfl rfl (hb hby at_150) rfl ?_
    intro v13 T13 L13 X13 hQ13 hZ hown HH13 A13
    obtain ⟨sa1, rfl, Nq13, Kq13, Ss13⟩ := hQ13
    have N13 := Fr.app N0 Nq13
    obtain ⟨t1, kb1, cd1, Nn1, vs1, Es1, Vs1, Cs1, Ks1, cod1, hbd1, hle1⟩ := Ss13
    show own_Ends p e below _ (T13.setTop (mkF m 153 #[.val (.int p1), .val (.int p2), .val (.int p3), .val (.int n1), .val (.int l1), .val (.int n2), .val (.int l2), .val (.int mo), .val (.int p2), .val (.int c2), .val (.int c3), .val (.int c4), .val (.int c5), .val (.int c6), .val (.int c7), .val (.int c8), .val (.int c9), .unset, .unset, .unset, .unset, .unset] [(.ref sa1), (.ref b10), (.ref b10)]))
    refine own_iload X13 hx (hb hby at_153) rfl rfl ?_
    refine own_iload X13 hx (hb hby at_155) rfl rfl ?_
    refine own_iload X13 hx (hb hby at_157) rfl rfl ?_
    have f14 := (f12.keep Kq13 all0)
    refine own_staticH X13 hx hZ (y := (⟨"com/example/lockstitch/lockstitch/engine/tree/PropertyNameEqualsPinLaw", "mk", "(ICC)Ljava/lang/String;"⟩ : MethodName)) hown (hw _ (List.mem_of_getElem? (i := 3) rfl)) (hw _ (List.mem_of_getElem? (i := 4) rfl)) (hw _ (List.mem_of_getElem? (i := 5) rfl)) (hw _ (List.mem_of_getElem? (i := 6) rfl)) (by decide) HH13 hEL rfl (by decide) (W := 3) (by decide) (by decide) (by decide) [(.int l1), (.int c4), (.int c5)] [(.ref sa1), (.ref b10), (.ref b10)] (by rw [hml]; rfl) (own_mk l Z a0 hw l1 c4 c5 zc T13.heap n0 hEL f14 hc4 hc5 SC hzc) own_pd8 rfl rfl rfl (hb hby at_159) rfl ?_
    intro v15 T15 L15 X15 hQ15 hZ hown HH15 A15
    obtain ⟨sa2, rfl, Nq15, Kq15, Ss15⟩ := hQ15
    have N15 := Fr.app N13 Nq15
    obtain ⟨t2, kb2, cd2, Nn2, vs2, Es2, Vs2, Cs2, Ks2, cod2, hbd2, hle2⟩ := Ss15
    show own_Ends p e below _ (T15.setTop (mkF m 162 #[.val (.int p1), .val (.int p2), .val (.int p3), .val (.int n1), .val (.int l1), .val (.int n2), .val (.int l2), .val (.int mo), .val (.int p2), .val (.int c2), .val (.int c3), .val (.int c4), .val (.int c5), .val (.int c6), .val (.int c7), .val (.int c8), .val (.int c9), .unset, .unset, .unset, .unset, .unset] [(.ref sa2), (.ref sa1), (.ref b10), (.ref b10)]))
    have f16 := ((A10.keep Kq13).keep Kq15)
    have f17 := (Es1.keep Kq15)
    refine own_special X15 hx hZ (y := (⟨"com/example/lockstitch/lockstitch/engine/tree/PropertyName", "<init>", "(Ljava/lang/String;Ljava/lang/String;)V"⟩ : MethodName)) rfl hown (hw _ (List.mem_of_getElem? (i := 40) rfl)) (hw _ (List.mem_of_getElem? (i := 41) rfl)) (hw _ (List.mem_of_getElem? (i := 2) rfl)) (hw _ (List.mem_of_getElem? (i := 42) rfl)) (by decide) rfl (by decide) (W := 1) (by decide) (by decide) (by decide) [(.ref sa1), (.ref sa2)] [(.ref b10)] (by rw [hml]; rfl) (a := b10) (own_pni l Z a0 hw b10 sa1 sa2 T15.heap n0 g_b10 f16 f17 Es2 (fun L p => (((D10 L p).keep Kq13 nin0).keep Kq15 nin0))) own_pd9 rfl rfl rfl (hb hby at_162) rfl ?_
    intro v18 T18 L18 X18 hQ18
    obtain ⟨rfl, Nq18, Kq18, Fa18, Fb18⟩ := hQ18
    have N18 := Fr.app N15 Nq18
    have HH19 := HH15.keep Kq18 (sfS (Safe.exa hZ.alike f16 (by decide) (by decide)) sf0)
    show own_Ends p e below _ (T18.setTop (mkF m 165 #[.val (.int p1), .val (.int p2), .val (.int p3), .val (.int n1), .val (.int l1), .val (.int n2), .val (.int l2), .val (.int mo), .val (.int p2), .val (.int c2), .val (.int c3), .val (.int c4), .val (.int c5), .val (.int c6), .val (.int c7), .val (.int c8), .val (.int c9), .unset, .unset, .unset, .unset, .unset] [(.ref b10)]))
    refine own_astore X18 hx #[.val (.int p1), .val (.int p2), .val (.int p3), .val (.int n1), .val (.int l1), .val (.int n2), .val (.int l2), .val (.int mo), .val (.int p2), .val (.int c2), .val (.int c3), .val (.int c4), .val (.int c5), .val (.int c6), .val (.int c7), .val (.int c8), .val (.int c9), .val (.ref b10), .unset, .unset, .unset, .unset] (hb hby at_165) rfl rfl rfl ?_
    refine own_new X18 hx hZ hown (hw _ (List.mem_of_getElem? (i := 0) rfl)) (hw _ (List.mem_of_getElem? (i := 1) rfl)) (hw _ (List.mem_of_getElem? (i := 2) rfl)) rfl (hb hby at_167) (by decide) (by decide) rfl ?_
    intro T20 h20 b20 X20 e20 g20 E20 A20 D20
    have f21 := ((f14.keep Kq15 all0).keep Kq18 (allS g_b10 all0))
    have g_b20 : n0 ≤ b20 := Nat.le_trans (own_oz f21) (Nat.le_of_eq g20.symm)
    have HH22 := HH19.ext E20
    have Fb20_namespace : Fld Z h20 b20 "com/example/lockstitch/lockstitch/engine/tree/PropertyName" "namespace" "Ljava/lang/String;" .null := D20 (Or.inr (hw _ (List.mem_of_getElem? (i := 50) rfl))) (ty := (.object "java/lang/String")) (by decide)
    have Fb20_localName : Fld Z h20 b20 "com/example/lockstitch/lockstitch/engine/tree/PropertyName" "localName" "Ljava/lang/String;" .null := D20 (Or.inr (hw _ (List.mem_of_getElem? (i := 52) rfl))) (ty := (.object "java/lang/String")) (by decide)
    refine own_dup X20 hx (hb hby at_170) rfl rfl ?_
    refine own_iload X20 hx (hb hby at_171) rfl rfl ?_
    refine own_iload X20 hx (hb hby at_173) rfl rfl ?_
    refine own_iload X20 hx (hb hby at_175) rfl rfl ?_
    have f23 := (f21.ext E20)
    refine own_staticH X20 hx hZ (y := (⟨"com/example/lockstitch/lockstitch/engine/tree/PropertyNameEqualsPinLaw", "mk", "(ICC)Ljava/lang/String;"⟩ : MethodName)) hown (hw _ (List.mem_of_getElem? (i := 3) rfl)) (hw _ (List.mem_of_getElem? (i := 4) rfl)) (hw _ (List.mem_of_getElem? (i := 5) rfl)) (hw _ (List.mem_of_getElem? (i := 6) rfl)) (by decide) HH22 hEL e20 (by decide) (W := 2) (by decide) (by decide) (by decide) [(.int n2), (.int c6), (.int c7)] [(.ref b20), (.ref b20)] (by rw [hml]; rfl) (own_mk l Z a0 hw n2 c6 c7 zc h20 n0 hEL f23 hc6 hc7 SC hzc) own_pd8 rfl rfl rfl (hb hby at_177) rfl ?_
    intro v24 T24 L24 X24 hQ24 hZ hown HH24 A24
    obtain ⟨sa3, rfl, Nq24, Kq24, Ss24⟩ := hQ24
    have N24 := Fr.app N18 Nq24
    obtain ⟨t3, kb3, cd3, Nn3, vs3, Es3, Vs3, Cs3, Ks3, cod3, hbd3, hle3⟩ := Ss24
    show own_Ends p e below _ (T24.setTop (mkF m 180 #[.val (.int p1), .val (.int p2), .val (.int p3), .val (.int n1), .val (.int l1), .val (.int n2), .val (.int l2), .val (.int mo), .val (.int p2), .val (.int c2), .val (.int c3), .val (.int c4), .val (.int c5), .val (.int c6), .val (.int c7), .val (.int c8), .val (.int c9), .val (.ref b10), .unset, .unset, .unset, .unset] [(.ref sa3), (.ref b20), (.ref b20)]))
    refine own_iload X24 hx (hb hby at_180) rfl rfl ?_
    refine own_iload X24 hx (hb hby at_182) rfl rfl ?_
    refine own_iload X24 hx (hb hby at_184) rfl rfl ?_
    have f25 := (f23.keep Kq24 all0)
    refine own_staticH X24 hx hZ (y := (⟨"com/example/lockstitch/lockstitch/engine/tree/PropertyNameEqualsPinLaw", "mk", "(ICC)Ljava/lang/String;"⟩ : MethodName)) hown (hw _ (List.mem_of_getElem? (i := 3) rfl)) (hw _ (List.mem_of_getElem? (i := 4) rfl)) (hw _ (List.mem_of_getElem? (i := 5) rfl)) (hw _ (List.mem_of_getElem? (i := 6) rfl)) (by decide) HH24 hEL rfl (by decide) (W := 3) (by decide) (by decide) (by decide) [(.int l2), (.int c8), (.int c9)] [(.ref sa3), (.ref b20), (.ref b20)] (by rw [hml]; rfl) (own_mk l Z a0 hw l2 c8 c9 zc T24.heap n0 hEL f25 hc8 hc9 SC hzc) own_pd8 rfl rfl rfl (hb hby at_186) rfl ?_
    intro v26 T26 L26 X26 hQ26 hZ hown HH26 A26
    obtain ⟨sa4, rfl, Nq26, Kq26, Ss26⟩ := hQ26
    have N26 := Fr.app N24 Nq26
    obtain ⟨t4, kb4, cd4, Nn4, vs4, Es4, Vs4, Cs4, Ks4, cod4, hbd4, hle4⟩ := Ss26
    show own_Ends p e below _ (T26.setTop (mkF m 189 #[.val (.int p1), .val (.int p2), .val (.int p3), .val (.int n1), .val (.int l1), .val (.int n2), .val (.int l2), .val (.int mo), .val (.int p2), .val (.int c2), .val (.int c3), .val (.int c4), .val (.int c5), .val (.int c6), .val (.int c7), .val (.int c8), .val (.int c9), .val (.ref b10), .unset, .unset, .unset, .unset] [(.ref sa4), (.ref sa3), (.ref b20), (.ref b20)]))
    have f27 := ((A20.keep Kq24).keep Kq26)
    have f28 := (Es3.keep Kq26)
    refine own_special X26 hx hZ (y := (⟨"com/example/lockstitch/lockstitch/engine/tree/PropertyName", "<init>", "(Ljava/lang/String;Ljava/lang/String;)V"⟩ : MethodName)) rfl hown (hw _ (List.mem_of_getElem? (i := 40) rfl)) (hw _ (List.mem_of_getElem? (i := 41) rfl)) (hw _ (List.mem_of_getElem? (i := 2) rfl)) (hw _ (List.mem_of_getElem? (i := 42) rfl)) (by decide) rfl (by decide) (W := 1) (by decide) (by decide) (by decide) [(.ref sa3), (.ref sa4)] [(.ref b20)] (by rw [hml]; rfl) (a := b20) (own_pni l Z a0 hw b20 sa3 sa4 T26.heap n0 g_b20 f27 f28 Es4 (fun L p => (((D20 L p).keep Kq24 nin0).keep Kq26 nin0))) own_pd9 rfl rfl rfl (hb hby at_189) rfl ?_
    intro v29 T29 L29 X29 hQ29
    obtain ⟨rfl, Nq29, Kq29, Fa29, Fb29⟩ := hQ29
    have N29 := Fr.app N26 Nq29
    have HH30 := HH26.keep Kq29 (sfS (Safe.exa hZ.alike f27 (by decide) (by decide)) sf0)
    show own_Ends p e below _ (T29.setTop (mkF m 192 #[.val (.int p1), .val (.int p2), .val (.int p3), .val (.int n1), .val (.int l1), .val (.int n2), .val (.int l2), .val (.int mo), .val (.int p2), .val (.int c2), .val (.int c3), .val (.int c4), .val (.int c5), .val (.int c6), .val (.int c7), .val (.int c8), .val (.int c9), .val (.ref b10), .unset, .unset, .unset, .unset] [(.ref b20)]))
    refine own_astore X29 hx #[.val (.int p1), .val (.int p2), .val (.int p3), .val (.int n1), .val (.int l1), .val (.int n2), .val (.int l2), .val (.int mo), .val (.int p2), .val (.int c2), .val (.int c3), .val (.int c4), .val (.int c5), .val (.int c6), .val (.int c7), .val (.int c8), .val (.int c9), .val (.ref b10), .val (.ref b20), .unset, .unset, .unset] (hb hby at_192) rfl rfl rfl ?_
    refine own_iload X29 hx (hb hby at_194) rfl rfl ?_
    refine own_iconst X29 hx (2 : Int32) (hb hby at_196) (by decide) rfl ?_
    refine own_icmp_ne X29 hx (hb hby at_197) (by decide) rfl rfl (fun hc197_31 => ?_) (fun hc197_31 => ?_)
    · refine own_iload X29 hx (hb hby at_206) rfl rfl ?_
      refine own_iconst X29 hx (3 : Int32) (hb hby at_208) (by decide) rfl ?_
      refine own_icmp_ne X29 hx (hb hby at_209) (by decide) rfl rfl (fun hc209_32 => ?_) (fun hc209_32 => ?_)
      · refine own_aload X29 hx (hb hby at_225) rfl rfl rfl ?_
        refine own_astore X29 hx #[.val (.int p1), .val (.int p2), .val (.int p3), .val (.int n1), .val (.int l1), .val (.int n2), .val (.int l2), .val (.int mo), .val (.int p2), .val (.int c2), .val (.int c3), .val (.int c4), .val (.int c5), .val (.int c6), .val (.int c7), .val (.int c8), .val (.int c9), .val (.ref b10), .val (.ref b20), .val (.ref b20), .unset, .unset] (hb hby at_227) rfl rfl rfl ?_
        refine own_aload X29 hx (hb hby at_229) rfl rfl rfl ?_
        refine own_aload X29 hx (hb hby at_231) rfl rfl rfl ?_
        have f33 := ((f25.keep Kq26 all0).keep Kq29 (allS g_b20 all0))
        have f34 := (f27.keep Kq29)
        have f35 := ((((Fa18.ext E20).keep Kq24 nin0).keep Kq26 nin0).keep Kq29 (ninS (Nat.ne_of_lt (Nat.lt_of_lt_of_le Fa18.lt (Nat.le_of_eq g20.symm))) nin0))
        have f36 := ((((Fb18.ext E20).keep Kq24 nin0).keep Kq26 nin0).keep Kq29 (ninS (Nat.ne_of_lt (Nat.lt_of_lt_of_le Fa18.lt (Nat.le_of_eq g20.symm))) nin0))
        have f37 := (((((f17.keep Kq18).ext E20).keep Kq24).keep Kq26).keep Kq29)
        have f38 := ((((((Vs1.keep Kq15 nin0).keep Kq18 (ninS (ne_exa Es1 (A10.keep Kq13) (by decide)) nin0)).ext E20).keep Kq24 nin0).keep Kq26 nin0).keep Kq29 (ninS (Nat.ne_of_lt (Nat.lt_of_lt_of_le (f17.keep Kq18).lt (Nat.le_of_eq g20.symm))) nin0))
        have f39 := ((((((Cs1.keep Kq15 nin0).keep Kq18 (ninS (ne_exa Es1 (A10.keep Kq13) (by decide)) nin0)).ext E20).keep Kq24 nin0).keep Kq26 nin0).keep Kq29 (ninS (Nat.ne_of_lt (Nat.lt_of_lt_of_le (f17.keep Kq18).lt (Nat.le_of_eq g20.symm))) nin0))
        have f40 := ((((((Ks1.keep Kq15 nin0).keep Kq18 (ninS (Ne.symm (Exa.neArv (A10.keep Kq13) Ks1 (hw _ (List.mem_of_getElem? (i := 1) rfl)))) nin0)).ext E20).keep Kq24 nin0).keep Kq26 nin0).keep Kq29 (ninS (Nat.ne_of_lt (Nat.lt_of_lt_of_le ((Ks1.keep Kq15 nin0).keep Kq18 (ninS (Ne.symm (Exa.neArv (A10.keep Kq13) Ks1 (hw _ (List.mem_of_getElem? (i := 1) rfl)))) nin0)).lt (Nat.le_of_eq g20.symm))) nin0))
        have f41 := (((((Es2.keep Kq18).ext E20).keep Kq24).keep Kq26).keep Kq29)
        have f42 := (((((Vs2.keep Kq18 (ninS (ne_exa Es2 f16 (by decide)) nin0)).ext E20).keep Kq24 nin0).keep Kq26 nin0).keep Kq29 (ninS (Nat.ne_of_lt (Nat.lt_of_lt_of_le (Es2.keep Kq18).lt (Nat.le_of_eq g20.symm))) nin0))
        have f43 := (((((Cs2.keep Kq18 (ninS (ne_exa Es2 f16 (by decide)) nin0)).ext E20).keep Kq24 nin0).keep Kq26 nin0).keep Kq29 (ninS (Nat.ne_of_lt (Nat.lt_of_lt_of_le (Es2.keep Kq18).lt (Nat.le_of_eq g20.symm))) nin0))
        have f44 := (((((Ks2.keep Kq18 (ninS (Ne.symm (Exa.neArv f16 Ks2 (hw _ (List.mem_of_getElem? (i := 1) rfl)))) nin0)).ext E20).keep Kq24 nin0).keep Kq26 nin0).keep Kq29 (ninS (Nat.ne_of_lt (Nat.lt_of_lt_of_le (Ks2.keep Kq18 (ninS (Ne.symm (Exa.neArv f16 Ks2 (hw _ (List.mem_of_getElem? (i := 1) rfl)))) nin0)).lt (Nat.le_of_eq g20.symm))) nin0))
        have f45 := (f28.keep Kq29)
        have f46 := ((Vs3.keep Kq26 nin0).keep Kq29 (ninS (ne_exa Es3 (A20.keep Kq24) (by decide)) nin0))
        have f47 := ((Cs3.keep Kq26 nin0).keep Kq29 (ninS (ne_exa Es3 (A20.keep Kq24) (by decide)) nin0))
        have f48 := ((Ks3.keep Kq26 nin0).keep Kq29 (ninS (Ne.symm (Exa.neArv (A20.keep Kq24) Ks3 (hw _ (List.mem_of_getElem? (i := 1) rfl)))) nin0))
        have f49 := (Es4.keep Kq29)
        have f50 := (Vs4.keep Kq29 (ninS (ne_exa Es4 f27 (by decide)) nin0))
        have f51 := (Cs4.keep Kq29 (ninS (ne_exa Es4 f27 (by decide)) nin0))
        have f52 := (Ks4.keep Kq29 (ninS (Ne.symm (Exa.neArv f27 Ks4 (hw _ (List.mem_of_getElem? (i := 1) rfl)))) nin0))
        have f54 := (((((f16.keep Kq18).ext E20).keep Kq24).keep Kq26).keep Kq29)
        refine own_virtual X29 hx hZ (y := (⟨"com/example/lockstitch/lockstitch/engine/tree/PropertyName", "equals", "(Ljava/lang/Object;)Z"⟩ : MethodName)) (z := (⟨"com/example/lockstitch/lockstitch/engine/tree/PropertyName", "equals", "(Ljava/lang/Object;)Z"⟩ : MethodName)) hown (hw _ (List.mem_of_getElem? (i := 53) rfl)) (hw _ (List.mem_of_getElem? (i := 54) rfl)) (notFace_of_selects (args := #[]) (mvT hZ (hw _ (List.mem_of_getElem? (i := 56) rfl)))) (hw _ (List.mem_of_getElem? (i := 56) rfl)) (hw _ (List.mem_of_getElem? (i := 55) rfl)) (hw _ (List.mem_of_getElem? (i := 2) rfl)) (hw _ (List.mem_of_getElem? (i := 57) rfl)) (by decide) rfl (by decide) (W := 0) (by decide) (by decide) (by decide) [(.ref b20)] [] (by rw [hml]; rfl) f54 (own_eqP l Z a0 hw b10 b20 sa1 sa2 sa3 sa4 (own_mkl n1 c2 c3) (own_mkl l1 c4 c5) (own_mkl n2 c6 c7) (own_mkl l2 c8 c9) zc T29.heap n0 f33 SC hzc f34 f35 f36 Fa29 Fb29 ⟨_, _, _, _, _, f37, f38, f39, f40, cod1, hbd1, hle1⟩ ⟨_, _, _, _, _, f41, f42, f43, f44, cod2, hbd2, hle2⟩ ⟨_, _, _, _, _, f45, f46, f47, f48, cod3, hbd3, hle3⟩ ⟨_, _, _, _, _, f49, f50, f51, f52, cod4, hbd4, hle4⟩) own_pd7 rfl rfl rfl (hb hby at_233) rfl ?_
        intro v53 T53 L53 X53 hQ53
        obtain ⟨rfl, Nq53, hh53⟩ := hQ53
        have N53 := Fr.app N29 Nq53
        show own_Ends p e below _ (T53.setTop (mkF m 236 #[.val (.int p1), .val (.int p2), .val (.int p3), .val (.int n1), .val (.int l1), .val (.int n2), .val (.int l2), .val (.int mo), .val (.int p2), .val (.int c2), .val (.int c3), .val (.int c4), .val (.int c5), .val (.int c6), .val (.int c7), .val (.int c8), .val (.int c9), .val (.ref b10), .val (.ref b20), .val (.ref b20), .unset, .unset] [(.int (own_eqp (own_mkl n2 c6 c7) (own_mkl n1 c2 c3) (own_mkl l2 c8 c9) (own_mkl l1 c4 c5)))]))
        refine own_istore X53 hx #[.val (.int p1), .val (.int p2), .val (.int p3), .val (.int n1), .val (.int l1), .val (.int n2), .val (.int l2), .val (.int mo), .val (.int p2), .val (.int c2), .val (.int c3), .val (.int c4), .val (.int c5), .val (.int c6), .val (.int c7), .val (.int c8), .val (.int c9), .val (.ref b10), .val (.ref b20), .val (.ref b20), .val (.int (own_eqp (own_mkl n2 c6 c7) (own_mkl n1 c2 c3) (own_mkl l2 c8 c9) (own_mkl l1 c4 c5))), .unset] (hb hby at_236) rfl rfl ?_
        refine own_iload X53 hx (hb hby at_238) rfl rfl ?_
        refine own_iconst X53 hx (2 : Int32) (hb hby at_240) (by decide) rfl ?_
        refine own_icmpF X53 hx (hb hby at_241) rfl (tlt (own_lt2 hmo hc197_31 hc209_32)).2.1 ?_
        refine own_iloadN X53 hx (hb hby at_244) rfl rfl ?_
        refine own_iload X53 hx (hb hby at_245) rfl rfl ?_
        refine own_iload X53 hx (hb hby at_247) rfl rfl ?_
        refine own_iload X53 hx (hb hby at_249) rfl rfl ?_
        refine own_iload X53 hx (hb hby at_251) rfl rfl ?_
        refine own_iload X53 hx (hb hby at_253) rfl rfl ?_
        refine own_static X53 hx hZ (y := (⟨"com/example/lockstitch/lockstitch/engine/tree/PropertyNameEqualsPinLaw", "same", "(ICCICC)Z"⟩ : MethodName)) hown (hw _ (List.mem_of_getElem? (i := 70) rfl)) (hw _ (List.mem_of_getElem? (i := 71) rfl)) (hw _ (List.mem_of_getElem? (i := 5) rfl)) (hw _ (List.mem_of_getElem? (i := 72) rfl)) (by decide) hh53 (by decide) (W := 0) (by decide) (by decide) (by decide) [(.int n1), (.int c2), (.int c3), (.int n2), (.int c6), (.int c7)] [] (by rw [hml]; rfl) (own_sm l Z a0 hw n1 c2 c3 n2 c6 c7 T29.heap n0) own_pd10 rfl rfl rfl (hb hby at_255) rfl ?_
        intro v55 T55 L55 X55 hQ55
        obtain ⟨rfl, Nq55, hh55⟩ := hQ55
        have N55 := Fr.app N53 Nq55
        show own_Ends p e below _ (T55.setTop (mkF m 258 #[.val (.int p1), .val (.int p2), .val (.int p3), .val (.int n1), .val (.int l1), .val (.int n2), .val (.int l2), .val (.int mo), .val (.int p2), .val (.int c2), .val (.int c3), .val (.int c4), .val (.int c5), .val (.int c6), .val (.int c7), .val (.int c8), .val (.int c9), .val (.ref b10), .val (.ref b20), .val (.ref b20), .val (.int (own_eqp (own_mkl n2 c6 c7) (own_mkl n1 c2 c3) (own_mkl l2 c8 c9) (own_mkl l1 c4 c5))), .unset] [(.int (own_same n1 c2 c3 n2 c6 c7))]))
        refine own_if_eq X55 hx (hb hby at_258) (by decide) rfl rfl (fun hc258_56 => ?_) (fun hc258_56 => ?_)
        · refine own_iconst X55 hx (0 : Int32) (hb hby at_283) (by decide) rfl ?_
          refine own_istore X55 hx #[.val (.int p1), .val (.int p2), .val (.int p3), .val (.int n1), .val (.int l1), .val (.int n2), .val (.int l2), .val (.int mo), .val (.int p2), .val (.int c2), .val (.int c3), .val (.int c4), .val (.int c5), .val (.int c6), .val (.int c7), .val (.int c8), .val (.int c9), .val (.ref b10), .val (.ref b20), .val (.ref b20), .val (.int (own_eqp (own_mkl n2 c6 c7) (own_mkl n1 c2 c3) (own_mkl l2 c8 c9) (own_mkl l1 c4 c5))), .val (.int (0 : Int32))] (hb hby at_284) rfl rfl ?_
          refine own_iload X55 hx (hb hby at_286) rfl rfl ?_
          refine own_iload X55 hx (hb hby at_288) rfl rfl ?_
          refine own_icmpF X55 hx (hb hby at_290) rfl (teq ((own_fin hn1 hl1 hn2 hl2 _ _ _ _ _ _ _ _).trans (by simp [hc209_32, hc258_56]))).2 ?_
          refine own_iconst X55 hx (1 : Int32) (hb hby at_293) (by decide) rfl ?_
          refine own_goto X55 hx (hb hby at_294) (by decide) rfl ?_
          exact own_retNH X55 hx hZ hh55 HH30 hEL hlocks hret (by simp) (hb hby at_298) (by decide) (by decide) (by decide) ⟨rfl, N55⟩
        · refine own_iload X55 hx (hb hby at_261) rfl rfl ?_
          refine own_iload X55 hx (hb hby at_263) rfl rfl ?_
          refine own_iload X55 hx (hb hby at_265) rfl rfl ?_
          refine own_iload X55 hx (hb hby at_267) rfl rfl ?_
          refine own_iload X55 hx (hb hby at_269) rfl rfl ?_
          refine own_iload X55 hx (hb hby at_271) rfl rfl ?_
          refine own_static X55 hx hZ (y := (⟨"com/example/lockstitch/lockstitch/engine/tree/PropertyNameEqualsPinLaw", "same", "(ICCICC)Z"⟩ : MethodName)) hown (hw _ (List.mem_of_getElem? (i := 70) rfl)) (hw _ (List.mem_of_getElem? (i := 71) rfl)) (hw _ (List.mem_of_getElem? (i := 5) rfl)) (hw _ (List.mem_of_getElem? (i := 72) rfl)) (by decide) hh55 (by decide) (W := 0) (by decide) (by decide) (by decide) [(.int l1), (.int c4), (.int c5), (.int l2), (.int c8), (.int c9)] [] (by rw [hml]; rfl) (own_sm l Z a0 hw l1 c4 c5 l2 c8 c9 T29.heap n0) own_pd10 rfl rfl rfl (hb hby at_273) rfl ?_
          intro v57 T57 L57 X57 hQ57
          obtain ⟨rfl, Nq57, hh57⟩ := hQ57
          have N57 := Fr.app N55 Nq57
          show own_Ends p e below _ (T57.setTop (mkF m 276 #[.val (.int p1), .val (.int p2), .val (.int p3), .val (.int n1), .val (.int l1), .val (.int n2), .val (.int l2), .val (.int mo), .val (.int p2), .val (.int c2), .val (.int c3), .val (.int c4), .val (.int c5), .val (.int c6), .val (.int c7), .val (.int c8), .val (.int c9), .val (.ref b10), .val (.ref b20), .val (.ref b20), .val (.int (own_eqp (own_mkl n2 c6 c7) (own_mkl n1 c2 c3) (own_mkl l2 c8 c9) (own_mkl l1 c4 c5))), .unset] [(.int (own_same l1 c4 c5 l2 c8 c9))]))
          refine own_if_eq X57 hx (hb hby at_276) (by decide) rfl rfl (fun hc276_58 => ?_) (fun hc276_58 => ?_)
          · refine own_iconst X57 hx (0 : Int32) (hb hby at_283) (by decide) rfl ?_
            refine own_istore X57 hx #[.val (.int p1), .val (.int p2), .val (.int p3), .val (.int n1), .val (.int l1), .val (.int n2), .val (.int l2), .val (.int mo), .val (.int p2), .val (.int c2), .val (.int c3), .val (.int c4), .val (.int c5), .val (.int c6), .val (.int c7), .val (.int c8), .val (.int c9), .val (.ref b10), .val (.ref b20), .val (.ref b20), .val (.int (own_eqp (own_mkl n2 c6 c7) (own_mkl n1 c2 c3) (own_mkl l2 c8 c9) (own_mkl l1 c4 c5))), .val (.int (0 : Int32))] (hb hby at_284) rfl rfl ?_
            refine own_iload X57 hx (hb hby at_286) rfl rfl ?_
            refine own_iload X57 hx (hb hby at_288) rfl rfl ?_
            refine own_icmpF X57 hx (hb hby at_290) rfl (teq ((own_fin hn1 hl1 hn2 hl2 _ _ _ _ _ _ _ _).trans (by simp [hc258_56, hc276_58]))).2 ?_
            refine own_iconst X57 hx (1 : Int32) (hb hby at_293) (by decide) rfl ?_
            refine own_goto X57 hx (hb hby at_294) (by decide) rfl ?_
            exact own_retNH X57 hx hZ hh57 HH30 hEL hlocks hret (by simp) (hb hby at_298) (by decide) (by decide) (by decide) ⟨rfl, N57⟩
          · refine own_iconst X57 hx (1 : Int32) (hb hby at_279) (by decide) rfl ?_
            refine own_goto X57 hx (hb hby at_280) (by decide) rfl ?_
            refine own_istore X57 hx #[.val (.int p1), .val (.int p2), .val (.int p3), .val (.int n1), .val (.int l1), .val (.int n2), .val (.int l2), .val (.int mo), .val (.int p2), .val (.int c2), .val (.int c3), .val (.int c4), .val (.int c5), .val (.int c6), .val (.int c7), .val (.int c8), .val (.int c9), .val (.ref b10), .val (.ref b20), .val (.ref b20), .val (.int (own_eqp (own_mkl n2 c6 c7) (own_mkl n1 c2 c3) (own_mkl l2 c8 c9) (own_mkl l1 c4 c5))), .val (.int (1 : Int32))] (hb hby at_284) rfl rfl ?_
            refine own_iload X57 hx (hb hby at_286) rfl rfl ?_
            refine own_iload X57 hx (hb hby at_288) rfl rfl ?_
            refine own_icmpF X57 hx (hb hby at_290) rfl (teq ((own_fin hn1 hl1 hn2 hl2 _ _ _ _ _ _ _ _).trans (by simp [hc258_56, hc276_58]))).2 ?_
            refine own_iconst X57 hx (1 : Int32) (hb hby at_293) (by decide) rfl ?_
            refine own_goto X57 hx (hb hby at_294) (by decide) rfl ?_
            exact own_retNH X57 hx hZ hh57 HH30 hEL hlocks hret (by simp) (hb hby at_298) (by decide) (by decide) (by decide) ⟨rfl, N57⟩
      · refine own_iloadN X29 hx (hb hby at_212) rfl rfl ?_
        refine own_iload X29 hx (hb hby at_213) rfl rfl ?_
        refine own_iload X29 hx (hb hby at_215) rfl rfl ?_
        have f59 := ((f25.keep Kq26 all0).keep Kq29 (allS g_b20 all0))
        refine own_staticH X29 hx hZ (y := (⟨"com/example/lockstitch/lockstitch/engine/tree/PropertyNameEqualsPinLaw", "mk", "(ICC)Ljava/lang/String;"⟩ : MethodName)) hown (hw _ (List.mem_of_getElem? (i := 3) rfl)) (hw _ (List.mem_of_getElem? (i := 4) rfl)) (hw _ (List.mem_of_getElem? (i := 5) rfl)) (hw _ (List.mem_of_getElem? (i := 6) rfl)) (by decide) HH30 hEL rfl (by decide) (W := 0) (by decide) (by decide) (by decide) [(.int n1), (.int c2), (.int c3)] [] (by rw [hml]; rfl) (own_mk l Z a0 hw n1 c2 c3 zc T29.heap n0 hEL f59 hc2 hc3 SC hzc) own_pd8 rfl rfl rfl (hb hby at_217) rfl ?_
        intro v60 T60 L60 X60 hQ60 hZ hown HH60 A60
        obtain ⟨sa5, rfl, Nq60, Kq60, Ss60⟩ := hQ60
        have N60 := Fr.app N29 Nq60
        obtain ⟨t5, kb5, cd5, Nn5, vs5, Es5, Vs5, Cs5, Ks5, cod5, hbd5, hle5⟩ := Ss60
        show own_Ends p e below _ (T60.setTop (mkF m 220 #[.val (.int p1), .val (.int p2), .val (.int p3), .val (.int n1), .val (.int l1), .val (.int n2), .val (.int l2), .val (.int mo), .val (.int p2), .val (.int c2), .val (.int c3), .val (.int c4), .val (.int c5), .val (.int c6), .val (.int c7), .val (.int c8), .val (.int c9), .val (.ref b10), .val (.ref b20), .unset, .unset, .unset] [(.ref sa5)]))
        refine own_astore X60 hx #[.val (.int p1), .val (.int p2), .val (.int p3), .val (.int n1), .val (.int l1), .val (.int n2), .val (.int l2), .val (.int mo), .val (.int p2), .val (.int c2), .val (.int c3), .val (.int c4), .val (.int c5), .val (.int c6), .val (.int c7), .val (.int c8), .val (.int c9), .val (.ref b10), .val (.ref b20), .val (.ref sa5), .unset, .unset] (hb hby at_220) rfl rfl rfl ?_
        refine own_goto X60 hx (hb hby at_222) (by decide) rfl ?_
        refine own_aload X60 hx (hb hby at_229) rfl rfl rfl ?_
        refine own_aload X60 hx (hb hby at_231) rfl rfl rfl ?_
        have f62 := ((((((f16.keep Kq18).ext E20).keep Kq24).keep Kq26).keep Kq29).keep Kq60)
        refine own_virtual X60 hx hZ (y := (⟨"com/example/lockstitch/lockstitch/engine/tree/PropertyName", "equals", "(Ljava/lang/Object;)Z"⟩ : MethodName)) (z := (⟨"com/example/lockstitch/lockstitch/engine/tree/PropertyName", "equals", "(Ljava/lang/Object;)Z"⟩ : MethodName)) hown (hw _ (List.mem_of_getElem? (i := 53) rfl)) (hw _ (List.mem_of_getElem? (i := 54) rfl)) (notFace_of_selects (args := #[]) (mvT hZ (hw _ (List.mem_of_getElem? (i := 56) rfl)))) (hw _ (List.mem_of_getElem? (i := 56) rfl)) (hw _ (List.mem_of_getElem? (i := 55) rfl)) (hw _ (List.mem_of_getElem? (i := 2) rfl)) (hw _ (List.mem_of_getElem? (i := 57) rfl)) (by decide) rfl (by decide) (W := 0) (by decide) (by decide) (by decide) [(.ref sa5)] [] (by rw [hml]; rfl) f62 (own_eqS l Z a0 hw b10 sa5 T60.heap n0 Es5) own_pd7 rfl rfl rfl (hb hby at_233) rfl ?_
        intro v61 T61 L61 X61 hQ61
        obtain ⟨rfl, Nq61, hh61⟩ := hQ61
        have N61 := Fr.app N60 Nq61
        show own_Ends p e below _ (T61.setTop (mkF m 236 #[.val (.int p1), .val (.int p2), .val (.int p3), .val (.int n1), .val (.int l1), .val (.int n2), .val (.int l2), .val (.int mo), .val (.int p2), .val (.int c2), .val (.int c3), .val (.int c4), .val (.int c5), .val (.int c6), .val (.int c7), .val (.int c8), .val (.int c9), .val (.ref b10), .val (.ref b20), .val (.ref sa5), .unset, .unset] [(.int (0 : Int32))]))
        refine own_istore X61 hx #[.val (.int p1), .val (.int p2), .val (.int p3), .val (.int n1), .val (.int l1), .val (.int n2), .val (.int l2), .val (.int mo), .val (.int p2), .val (.int c2), .val (.int c3), .val (.int c4), .val (.int c5), .val (.int c6), .val (.int c7), .val (.int c8), .val (.int c9), .val (.ref b10), .val (.ref b20), .val (.ref sa5), .val (.int (0 : Int32)), .unset] (hb hby at_236) rfl rfl ?_
        refine own_iload X61 hx (hb hby at_238) rfl rfl ?_
        refine own_iconst X61 hx (2 : Int32) (hb hby at_240) (by decide) rfl ?_
        refine own_icmpT X61 hx (hb hby at_241) (by decide) rfl (by rw [hc209_32]; decide) ?_
        refine own_iconst X61 hx (0 : Int32) (hb hby at_283) (by decide) rfl ?_
        refine own_istore X61 hx #[.val (.int p1), .val (.int p2), .val (.int p3), .val (.int n1), .val (.int l1), .val (.int n2), .val (.int l2), .val (.int mo), .val (.int p2), .val (.int c2), .val (.int c3), .val (.int c4), .val (.int c5), .val (.int c6), .val (.int c7), .val (.int c8), .val (.int c9), .val (.ref b10), .val (.ref b20), .val (.ref sa5), .val (.int (0 : Int32)), .val (.int (0 : Int32))] (hb hby at_284) rfl rfl ?_
        refine own_iload X61 hx (hb hby at_286) rfl rfl ?_
        refine own_iload X61 hx (hb hby at_288) rfl rfl ?_
        refine own_icmpF X61 hx (hb hby at_290) rfl (by decide) ?_
        refine own_iconst X61 hx (1 : Int32) (hb hby at_293) (by decide) rfl ?_
        refine own_goto X61 hx (hb hby at_294) (by decide) rfl ?_
        exact own_retNH X61 hx hZ hh61 HH60 hEL hlocks hret (by simp) (hb hby at_298) (by decide) (by decide) (by decide) ⟨rfl, N61⟩
    · refine own_aconst_null X29 hx (hb hby at_200) rfl ?_
      refine own_astore X29 hx #[.val (.int p1), .val (.int p2), .val (.int p3), .val (.int n1), .val (.int l1), .val (.int n2), .val (.int l2), .val (.int mo), .val (.int p2), .val (.int c2), .val (.int c3), .val (.int c4), .val (.int c5), .val (.int c6), .val (.int c7), .val (.int c8), .val (.int c9), .val (.ref b10), .val (.ref b20), .val .null, .unset, .unset] (hb hby at_201) rfl rfl rfl ?_
      refine own_goto X29 hx (hb hby at_203) (by decide) rfl ?_
      refine own_aload X29 hx (hb hby at_229) rfl rfl rfl ?_
      refine own_aload X29 hx (hb hby at_231) rfl rfl rfl ?_
      have f64 := (((((f16.keep Kq18).ext E20).keep Kq24).keep Kq26).keep Kq29)
      refine own_virtual X29 hx hZ (y := (⟨"com/example/lockstitch/lockstitch/engine/tree/PropertyName", "equals", "(Ljava/lang/Object;)Z"⟩ : MethodName)) (z := (⟨"com/example/lockstitch/lockstitch/engine/tree/PropertyName", "equals", "(Ljava/lang/Object;)Z"⟩ : MethodName)) hown (hw _ (List.mem_of_getElem? (i := 53) rfl)) (hw _ (List.mem_of_getElem? (i := 54) rfl)) (notFace_of_selects (args := #[]) (mvT hZ (hw _ (List.mem_of_getElem? (i := 56) rfl)))) (hw _ (List.mem_of_getElem? (i := 56) rfl)) (hw _ (List.mem_of_getElem? (i := 55) rfl)) (hw _ (List.mem_of_getElem? (i := 2) rfl)) (hw _ (List.mem_of_getElem? (i := 57) rfl)) (by decide) rfl (by decide) (W := 0) (by decide) (by decide) (by decide) [.null] [] (by rw [hml]; rfl) f64 (own_eqN l Z a0 hw b10 T29.heap n0) own_pd7 rfl rfl rfl (hb hby at_233) rfl ?_
      intro v63 T63 L63 X63 hQ63
      obtain ⟨rfl, Nq63, hh63⟩ := hQ63
      have N63 := Fr.app N29 Nq63
      show own_Ends p e below _ (T63.setTop (mkF m 236 #[.val (.int p1), .val (.int p2), .val (.int p3), .val (.int n1), .val (.int l1), .val (.int n2), .val (.int l2), .val (.int mo), .val (.int p2), .val (.int c2), .val (.int c3), .val (.int c4), .val (.int c5), .val (.int c6), .val (.int c7), .val (.int c8), .val (.int c9), .val (.ref b10), .val (.ref b20), .val .null, .unset, .unset] [(.int (0 : Int32))]))
      refine own_istore X63 hx #[.val (.int p1), .val (.int p2), .val (.int p3), .val (.int n1), .val (.int l1), .val (.int n2), .val (.int l2), .val (.int mo), .val (.int p2), .val (.int c2), .val (.int c3), .val (.int c4), .val (.int c5), .val (.int c6), .val (.int c7), .val (.int c8), .val (.int c9), .val (.ref b10), .val (.ref b20), .val .null, .val (.int (0 : Int32)), .unset] (hb hby at_236) rfl rfl ?_
      refine own_iload X63 hx (hb hby at_238) rfl rfl ?_
      refine own_iconst X63 hx (2 : Int32) (hb hby at_240) (by decide) rfl ?_
      refine own_icmpT X63 hx (hb hby at_241) (by decide) rfl (by rw [hc197_31]; decide) ?_
      refine own_iconst X63 hx (0 : Int32) (hb hby at_283) (by decide) rfl ?_
      refine own_istore X63 hx #[.val (.int p1), .val (.int p2), .val (.int p3), .val (.int n1), .val (.int l1), .val (.int n2), .val (.int l2), .val (.int mo), .val (.int p2), .val (.int c2), .val (.int c3), .val (.int c4), .val (.int c5), .val (.int c6), .val (.int c7), .val (.int c8), .val (.int c9), .val (.ref b10), .val (.ref b20), .val .null, .val (.int (0 : Int32)), .val (.int (0 : Int32))] (hb hby at_284) rfl rfl ?_
      refine own_iload X63 hx (hb hby at_286) rfl rfl ?_
      refine own_iload X63 hx (hb hby at_288) rfl rfl ?_
      refine own_icmpF X63 hx (hb hby at_290) rfl (by decide) ?_
      refine own_iconst X63 hx (1 : Int32) (hb hby at_293) (by decide) rfl ?_
      refine own_goto X63 hx (hb hby at_294) (by decide) rfl ?_
      exact own_retNH X63 hx hZ hh63 HH30 hEL hlocks hret (by simp) (hb hby at_298) (by decide) (by decide) (by decide) ⟨rfl, N63⟩
  · refine own_iloadN X0 hx (hb hby at_48) rfl rfl ?_
    refine own_goto X0 hx (hb hby at_49) (by decide) rfl ?_
    refine own_istore X0 hx #[.val (.int p1), .val (.int p2), .val (.int p3), .val (.int n1), .val (.int l1), .val (.int n2), .val (.int l2), .val (.int mo), .val (.int p1), .unset, .unset, .unset, .unset, .unset, .unset, .unset, .unset, .unset, .unset, .unset, .unset, .unset] (hb hby at_53) rfl rfl ?_
    refine own_iloadN X0 hx (hb hby at_55) rfl rfl ?_
    refine own_sipush X0 hx (255 : Int32) (hb hby at_56) (by decide) rfl ?_
    refine own_iand X0 hx (hb hby at_59) rfl ?_
    refine own_i2c X0 hx (hb hby at_60) rfl ?_
    have hc65 := own_ch p1
    generalize ((p1 &&& (255 : Int32)).toUInt32.toUInt16.toUInt32.toInt32) = c65 at hc65 ⊢
    refine own_istore X0 hx #[.val (.int p1), .val (.int p2), .val (.int p3), .val (.int n1), .val (.int l1), .val (.int n2), .val (.int l2), .val (.int mo), .val (.int p1), .val (.int c65), .unset, .unset, .unset, .unset, .unset, .unset, .unset, .unset, .unset, .unset, .unset, .unset] (hb hby at_61) rfl rfl ?_
    refine own_iloadN X0 hx (hb hby at_63) rfl rfl ?_
    refine own_bipush X0 hx (8 : Int32) (hb hby at_64) (by decide) rfl ?_
    refine own_iushr X0 hx (hb hby at_66) rfl ?_
    refine own_sipush X0 hx (255 : Int32) (hb hby at_67) (by decide) rfl ?_
    refine own_iand X0 hx (hb hby at_70) rfl ?_
    refine own_i2c X0 hx (hb hby at_71) rfl ?_
    have hc66 := own_ch (own_ushr p1 (8 : Int32))
    generalize (((own_ushr p1 (8 : Int32)) &&& (255 : Int32)).toUInt32.toUInt16.toUInt32.toInt32) = c66 at hc66 ⊢
    refine own_istore X0 hx #[.val (.int p1), .val (.int p2), .val (.int p3), .val (.int n1), .val (.int l1), .val (.int n2), .val (.int l2), .val (.int mo), .val (.int p1), .val (.int c65), .val (.int c66), .unset, .unset, .unset, .unset, .unset, .unset, .unset, .unset, .unset, .unset, .unset] (hb hby at_72) rfl rfl ?_
    refine own_iloadN X0 hx (hb hby at_74) rfl rfl ?_
    refine own_bipush X0 hx (16 : Int32) (hb hby at_75) (by decide) rfl ?_
    refine own_iushr X0 hx (hb hby at_77) rfl ?_
    refine own_sipush X0 hx (255 : Int32) (hb hby at_78) (by decide) rfl ?_
    refine own_iand X0 hx (hb hby at_81) rfl ?_
    refine own_i2c X0 hx (hb hby at_82) rfl ?_
    have hc67 := own_ch (own_ushr p1 (16 : Int32))
    generalize (((own_ushr p1 (16 : Int32)) &&& (255 : Int32)).toUInt32.toUInt16.toUInt32.toInt32) = c67 at hc67 ⊢
    refine own_istore X0 hx #[.val (.int p1), .val (.int p2), .val (.int p3), .val (.int n1), .val (.int l1), .val (.int n2), .val (.int l2), .val (.int mo), .val (.int p1), .val (.int c65), .val (.int c66), .val (.int c67), .unset, .unset, .unset, .unset, .unset, .unset, .unset, .unset, .unset, .unset] (hb hby at_83) rfl rfl ?_
    refine own_iloadN X0 hx (hb hby at_85) rfl rfl ?_
    refine own_bipush X0 hx (24 : Int32) (hb hby at_86) (by decide) rfl ?_
    refine own_iushr X0 hx (hb hby at_88) rfl ?_
    refine own_sipush X0 hx (255 : Int32) (hb hby at_89) (by decide) rfl ?_
    refine own_iand X0 hx (hb hby at_92) rfl ?_
    refine own_i2c X0 hx (hb hby at_93) rfl ?_
    have hc68 := own_ch (own_ushr p1 (24 : Int32))
    generalize (((own_ushr p1 (24 : Int32)) &&& (255 : Int32)).toUInt32.toUInt16.toUInt32.toInt32) = c68 at hc68 ⊢
    refine own_istore X0 hx #[.val (.int p1), .val (.int p2), .val (.int p3), .val (.int n1), .val (.int l1), .val (.int n2), .val (.int l2), .val (.int mo), .val (.int p1), .val (.int c65), .val (.int c66), .val (.int c67), .val (.int c68), .unset, .unset, .unset, .unset, .unset, .unset, .unset, .unset, .unset] (hb hby at_94) rfl rfl ?_
    refine own_iload X0 hx (hb hby at_96) rfl rfl ?_
    refine own_sipush X0 hx (255 : Int32) (hb hby at_98) (by decide) rfl ?_
    refine own_iand X0 hx (hb hby at_101) rfl ?_
    refine own_i2c X0 hx (hb hby at_102) rfl ?_
    have hc69 := own_ch p1
    generalize ((p1 &&& (255 : Int32)).toUInt32.toUInt16.toUInt32.toInt32) = c69 at hc69 ⊢
    refine own_istore X0 hx #[.val (.int p1), .val (.int p2), .val (.int p3), .val (.int n1), .val (.int l1), .val (.int n2), .val (.int l2), .val (.int mo), .val (.int p1), .val (.int c65), .val (.int c66), .val (.int c67), .val (.int c68), .val (.int c69), .unset, .unset, .unset, .unset, .unset, .unset, .unset, .unset] (hb hby at_103) rfl rfl ?_
    refine own_iload X0 hx (hb hby at_105) rfl rfl ?_
    refine own_bipush X0 hx (8 : Int32) (hb hby at_107) (by decide) rfl ?_
    refine own_iushr X0 hx (hb hby at_109) rfl ?_
    refine own_sipush X0 hx (255 : Int32) (hb hby at_110) (by decide) rfl ?_
    refine own_iand X0 hx (hb hby at_113) rfl ?_
    refine own_i2c X0 hx (hb hby at_114) rfl ?_
    have hc70 := own_ch (own_ushr p1 (8 : Int32))
    generalize (((own_ushr p1 (8 : Int32)) &&& (255 : Int32)).toUInt32.toUInt16.toUInt32.toInt32) = c70 at hc70 ⊢
    refine own_istore X0 hx #[.val (.int p1), .val (.int p2), .val (.int p3), .val (.int n1), .val (.int l1), .val (.int n2), .val (.int l2), .val (.int mo), .val (.int p1), .val (.int c65), .val (.int c66), .val (.int c67), .val (.int c68), .val (.int c69), .val (.int c70), .unset, .unset, .unset, .unset, .unset, .unset, .unset] (hb hby at_115) rfl rfl ?_
    refine own_iload X0 hx (hb hby at_117) rfl rfl ?_
    refine own_bipush X0 hx (16 : Int32) (hb hby at_119) (by decide) rfl ?_
    refine own_iushr X0 hx (hb hby at_121) rfl ?_
    refine own_sipush X0 hx (255 : Int32) (hb hby at_122) (by decide) rfl ?_
    refine own_iand X0 hx (hb hby at_125) rfl ?_
    refine own_i2c X0 hx (hb hby at_126) rfl ?_
    have hc71 := own_ch (own_ushr p1 (16 : Int32))
    generalize (((own_ushr p1 (16 : Int32)) &&& (255 : Int32)).toUInt32.toUInt16.toUInt32.toInt32) = c71 at hc71 ⊢
    refine own_istore X0 hx #[.val (.int p1), .val (.int p2), .val (.int p3), .val (.int n1), .val (.int l1), .val (.int n2), .val (.int l2), .val (.int mo), .val (.int p1), .val (.int c65), .val (.int c66), .val (.int c67), .val (.int c68), .val (.int c69), .val (.int c70), .val (.int c71), .unset, .unset, .unset, .unset, .unset, .unset] (hb hby at_127) rfl rfl ?_
    refine own_iload X0 hx (hb hby at_129) rfl rfl ?_
    refine own_bipush X0 hx (24 : Int32) (hb hby at_131) (by decide) rfl ?_
    refine own_iushr X0 hx (hb hby at_133) rfl ?_
    refine own_sipush X0 hx (255 : Int32) (hb hby at_134) (by decide) rfl ?_
    refine own_iand X0 hx (hb hby at_137) rfl ?_
    refine own_i2c X0 hx (hb hby at_138) rfl ?_
    have hc72 := own_ch (own_ushr p1 (24 : Int32))
    generalize (((own_ushr p1 (24 : Int32)) &&& (255 : Int32)).toUInt32.toUInt16.toUInt32.toInt32) = c72 at hc72 ⊢
    refine own_istore X0 hx #[.val (.int p1), .val (.int p2), .val (.int p3), .val (.int n1), .val (.int l1), .val (.int n2), .val (.int l2), .val (.int mo), .val (.int p1), .val (.int c65), .val (.int c66), .val (.int c67), .val (.int c68), .val (.int c69), .val (.int c70), .val (.int c71), .val (.int c72), .unset, .unset, .unset, .unset, .unset] (hb hby at_139) rfl rfl ?_
    refine own_new X0 hx hZ hown (hw _ (List.mem_of_getElem? (i := 0) rfl)) (hw _ (List.mem_of_getElem? (i := 1) rfl)) (hw _ (List.mem_of_getElem? (i := 2) rfl)) e0 (hb hby at_141) (by decide) (by decide) rfl ?_
    intro T73 h73 b73 X73 e73 g73 E73 A73 D73
    have g_b73 : n0 ≤ b73 := Nat.le_trans (own_oz O0) (Nat.le_of_eq g73.symm)
    have HH74 := HH0.ext E73
    have Fb73_namespace : Fld Z h73 b73 "com/example/lockstitch/lockstitch/engine/tree/PropertyName" "namespace" "Ljava/lang/String;" .null := D73 (Or.inr (hw _ (List.mem_of_getElem? (i := 50) rfl))) (ty := (.object "java/lang/String")) (by decide)
    have Fb73_localName : Fld Z h73 b73 "com/example/lockstitch/lockstitch/engine/tree/PropertyName" "localName" "Ljava/lang/String;" .null := D73 (Or.inr (hw _ (List.mem_of_getElem? (i := 52) rfl))) (ty := (.object "java/lang/String")) (by decide)
    refine own_dup X73 hx (hb hby at_144) rfl rfl ?_
    refine own_iloadN X73 hx (hb hby at_145) rfl rfl ?_
    refine own_iload X73 hx (hb hby at_146) rfl rfl ?_
    refine own_iload X73 hx (hb hby at_148) rfl rfl ?_
    have f75 := (O0.ext E73)
    refine own_staticH X73 hx hZ (y := (⟨"com/example/lockstitch/lockstitch/engine/tree/PropertyNameEqualsPinLaw", "mk", "(ICC)Ljava/lang/String;"⟩ : MethodName)) hown (hw _ (List.mem_of_getElem? (i := 3) rfl)) (hw _ (List.mem_of_getElem? (i := 4) rfl)) (hw _ (List.mem_of_getElem? (i := 5) rfl)) (hw _ (List.mem_of_getElem? (i := 6) rfl)) (by decide) HH74 hEL e73 (by decide) (W := 2) (by decide) (by decide) (by decide) [(.int n1), (.int c65), (.int c66)] [(.ref b73), (.ref b73)] (by rw [hml]; rfl) (own_mk l Z a0 hw n1 c65 c66 zc h73 n0 hEL f75 hc65 hc66 SC hzc) own_pd8 rfl rfl rfl (hb hby at_150) rfl ?_
    intro v76 T76 L76 X76 hQ76 hZ hown HH76 A76
    obtain ⟨sa1, rfl, Nq76, Kq76, Ss76⟩ := hQ76
    have N76 := Fr.app N0 Nq76
    obtain ⟨t1, kb1, cd1, Nn1, vs1, Es1, Vs1, Cs1, Ks1, cod1, hbd1, hle1⟩ := Ss76
    show own_Ends p e below _ (T76.setTop (mkF m 153 #[.val (.int p1), .val (.int p2), .val (.int p3), .val (.int n1), .val (.int l1), .val (.int n2), .val (.int l2), .val (.int mo), .val (.int p1), .val (.int c65), .val (.int c66), .val (.int c67), .val (.int c68), .val (.int c69), .val (.int c70), .val (.int c71), .val (.int c72), .unset, .unset, .unset, .unset, .unset] [(.ref sa1), (.ref b73), (.ref b73)]))
    refine own_iload X76 hx (hb hby at_153) rfl rfl ?_
    refine own_iload X76 hx (hb hby at_155) rfl rfl ?_
    refine own_iload X76 hx (hb hby at_157) rfl rfl ?_
    have f77 := (f75.keep Kq76 all0)
    refine own_staticH X76 hx hZ (y := (⟨"com/example/lockstitch/lockstitch/engine/tree/PropertyNameEqualsPinLaw", "mk", "(ICC)Ljava/lang/String;"⟩ : MethodName)) hown (hw _ (List.mem_of_getElem? (i := 3) rfl)) (hw _ (List.mem_of_getElem? (i := 4) rfl)) (hw _ (List.mem_of_getElem? (i := 5) rfl)) (hw _ (List.mem_of_getElem? (i := 6) rfl)) (by decide) HH76 hEL rfl (by decide) (W := 3) (by decide) (by decide) (by decide) [(.int l1), (.int c67), (.int c68)] [(.ref sa1), (.ref b73), (.ref b73)] (by rw [hml]; rfl) (own_mk l Z a0 hw l1 c67 c68 zc T76.heap n0 hEL f77 hc67 hc68 SC hzc) own_pd8 rfl rfl rfl (hb hby at_159) rfl ?_
    intro v78 T78 L78 X78 hQ78 hZ hown HH78 A78
    obtain ⟨sa2, rfl, Nq78, Kq78, Ss78⟩ := hQ78
    have N78 := Fr.app N76 Nq78
    obtain ⟨t2, kb2, cd2, Nn2, vs2, Es2, Vs2, Cs2, Ks2, cod2, hbd2, hle2⟩ := Ss78
    show own_Ends p e below _ (T78.setTop (mkF m 162 #[.val (.int p1), .val (.int p2), .val (.int p3), .val (.int n1), .val (.int l1), .val (.int n2), .val (.int l2), .val (.int mo), .val (.int p1), .val (.int c65), .val (.int c66), .val (.int c67), .val (.int c68), .val (.int c69), .val (.int c70), .val (.int c71), .val (.int c72), .unset, .unset, .unset, .unset, .unset] [(.ref sa2), (.ref sa1), (.ref b73), (.ref b73)]))
    have f79 := ((A73.keep Kq76).keep Kq78)
    have f80 := (Es1.keep Kq78)
    refine own_special X78 hx hZ (y := (⟨"com/example/lockstitch/lockstitch/engine/tree/PropertyName", "<init>", "(Ljava/lang/String;Ljava/lang/String;)V"⟩ : MethodName)) rfl hown (hw _ (List.mem_of_getElem? (i := 40) rfl)) (hw _ (List.mem_of_getElem? (i := 41) rfl)) (hw _ (List.mem_of_getElem? (i := 2) rfl)) (hw _ (List.mem_of_getElem? (i := 42) rfl)) (by decide) rfl (by decide) (W := 1) (by decide) (by decide) (by decide) [(.ref sa1), (.ref sa2)] [(.ref b73)] (by rw [hml]; rfl) (a := b73) (own_pni l Z a0 hw b73 sa1 sa2 T78.heap n0 g_b73 f79 f80 Es2 (fun L p => (((D73 L p).keep Kq76 nin0).keep Kq78 nin0))) own_pd9 rfl rfl rfl (hb hby at_162) rfl ?_
    intro v81 T81 L81 X81 hQ81
    obtain ⟨rfl, Nq81, Kq81, Fa81, Fb81⟩ := hQ81
    have N81 := Fr.app N78 Nq81
    have HH82 := HH78.keep Kq81 (sfS (Safe.exa hZ.alike f79 (by decide) (by decide)) sf0)
    show own_Ends p e below _ (T81.setTop (mkF m 165 #[.val (.int p1), .val (.int p2), .val (.int p3), .val (.int n1), .val (.int l1), .val (.int n2), .val (.int l2), .val (.int mo), .val (.int p1), .val (.int c65), .val (.int c66), .val (.int c67), .val (.int c68), .val (.int c69), .val (.int c70), .val (.int c71), .val (.int c72), .unset, .unset, .unset, .unset, .unset] [(.ref b73)]))
    refine own_astore X81 hx #[.val (.int p1), .val (.int p2), .val (.int p3), .val (.int n1), .val (.int l1), .val (.int n2), .val (.int l2), .val (.int mo), .val (.int p1), .val (.int c65), .val (.int c66), .val (.int c67), .val (.int c68), .val (.int c69), .val (.int c70), .val (.int c71), .val (.int c72), .val (.ref b73), .unset, .unset, .unset, .unset] (hb hby at_165) rfl rfl rfl ?_
    refine own_new X81 hx hZ hown (hw _ (List.mem_of_getElem? (i := 0) rfl)) (hw _ (List.mem_of_getElem? (i := 1) rfl)) (hw _ (List.mem_of_getElem? (i := 2) rfl)) rfl (hb hby at_167) (by decide) (by decide) rfl ?_
    intro T83 h83 b83 X83 e83 g83 E83 A83 D83
    have f84 := ((f77.keep Kq78 all0).keep Kq81 (allS g_b73 all0))
    have g_b83 : n0 ≤ b83 := Nat.le_trans (own_oz f84) (Nat.le_of_eq g83.symm)
    have HH85 := HH82.ext E83
    have Fb83_namespace : Fld Z h83 b83 "com/example/lockstitch/lockstitch/engine/tree/PropertyName" "namespace" "Ljava/lang/String;" .null := D83 (Or.inr (hw _ (List.mem_of_getElem? (i := 50) rfl))) (ty := (.object "java/lang/String")) (by decide)
    have Fb83_localName : Fld Z h83 b83 "com/example/lockstitch/lockstitch/engine/tree/PropertyName" "localName" "Ljava/lang/String;" .null := D83 (Or.inr (hw _ (List.mem_of_getElem? (i := 52) rfl))) (ty := (.object "java/lang/String")) (by decide)
    refine own_dup X83 hx (hb hby at_170) rfl rfl ?_
    refine own_iload X83 hx (hb hby at_171) rfl rfl ?_
    refine own_iload X83 hx (hb hby at_173) rfl rfl ?_
    refine own_iload X83 hx (hb hby at_175) rfl rfl ?_
    have f86 := (f84.ext E83)
    refine own_staticH X83 hx hZ (y := (⟨"com/example/lockstitch/lockstitch/engine/tree/PropertyNameEqualsPinLaw", "mk", "(ICC)Ljava/lang/String;"⟩ : MethodName)) hown (hw _ (List.mem_of_getElem? (i := 3) rfl)) (hw _ (List.mem_of_getElem? (i := 4) rfl)) (hw _ (List.mem_of_getElem? (i := 5) rfl)) (hw _ (List.mem_of_getElem? (i := 6) rfl)) (by decide) HH85 hEL e83 (by decide) (W := 2) (by decide) (by decide) (by decide) [(.int n2), (.int c69), (.int c70)] [(.ref b83), (.ref b83)] (by rw [hml]; rfl) (own_mk l Z a0 hw n2 c69 c70 zc h83 n0 hEL f86 hc69 hc70 SC hzc) own_pd8 rfl rfl rfl (hb hby at_177) rfl ?_
    intro v87 T87 L87 X87 hQ87 hZ hown HH87 A87
    obtain ⟨sa3, rfl, Nq87, Kq87, Ss87⟩ := hQ87
    have N87 := Fr.app N81 Nq87
    obtain ⟨t3, kb3, cd3, Nn3, vs3, Es3, Vs3, Cs3, Ks3, cod3, hbd3, hle3⟩ := Ss87
    show own_Ends p e below _ (T87.setTop (mkF m 180 #[.val (.int p1), .val (.int p2), .val (.int p3), .val (.int n1), .val (.int l1), .val (.int n2), .val (.int l2), .val (.int mo), .val (.int p1), .val (.int c65), .val (.int c66), .val (.int c67), .val (.int c68), .val (.int c69), .val (.int c70), .val (.int c71), .val (.int c72), .val (.ref b73), .unset, .unset, .unset, .unset] [(.ref sa3), (.ref b83), (.ref b83)]))
    refine own_iload X87 hx (hb hby at_180) rfl rfl ?_
    refine own_iload X87 hx (hb hby at_182) rfl rfl ?_
    refine own_iload X87 hx (hb hby at_184) rfl rfl ?_
    have f88 := (f86.keep Kq87 all0)
    refine own_staticH X87 hx hZ (y := (⟨"com/example/lockstitch/lockstitch/engine/tree/PropertyNameEqualsPinLaw", "mk", "(ICC)Ljava/lang/String;"⟩ : MethodName)) hown (hw _ (List.mem_of_getElem? (i := 3) rfl)) (hw _ (List.mem_of_getElem? (i := 4) rfl)) (hw _ (List.mem_of_getElem? (i := 5) rfl)) (hw _ (List.mem_of_getElem? (i := 6) rfl)) (by decide) HH87 hEL rfl (by decide) (W := 3) (by decide) (by decide) (by decide) [(.int l2), (.int c71), (.int c72)] [(.ref sa3), (.ref b83), (.ref b83)] (by rw [hml]; rfl) (own_mk l Z a0 hw l2 c71 c72 zc T87.heap n0 hEL f88 hc71 hc72 SC hzc) own_pd8 rfl rfl rfl (hb hby at_186) rfl ?_
    intro v89 T89 L89 X89 hQ89 hZ hown HH89 A89
    obtain ⟨sa4, rfl, Nq89, Kq89, Ss89⟩ := hQ89
    have N89 := Fr.app N87 Nq89
    obtain ⟨t4, kb4, cd4, Nn4, vs4, Es4, Vs4, Cs4, Ks4, cod4, hbd4, hle4⟩ := Ss89
    show own_Ends p e below _ (T89.setTop (mkF m 189 #[.val (.int p1), .val (.int p2), .val (.int p3), .val (.int n1), .val (.int l1), .val (.int n2), .val (.int l2), .val (.int mo), .val (.int p1), .val (.int c65), .val (.int c66), .val (.int c67), .val (.int c68), .val (.int c69), .val (.int c70), .val (.int c71), .val (.int c72), .val (.ref b73), .unset, .unset, .unset, .unset] [(.ref sa4), (.ref sa3), (.ref b83), (.ref b83)]))
    have f90 := ((A83.keep Kq87).keep Kq89)
    have f91 := (Es3.keep Kq89)
    refine own_special X89 hx hZ (y := (⟨"com/example/lockstitch/lockstitch/engine/tree/PropertyName", "<init>", "(Ljava/lang/String;Ljava/lang/String;)V"⟩ : MethodName)) rfl hown (hw _ (List.mem_of_getElem? (i := 40) rfl)) (hw _ (List.mem_of_getElem? (i := 41) rfl)) (hw _ (List.mem_of_getElem? (i := 2) rfl)) (hw _ (List.mem_of_getElem? (i := 42) rfl)) (by decide) rfl (by decide) (W := 1) (by decide) (by decide) (by decide) [(.ref sa3), (.ref sa4)] [(.ref b83)] (by rw [hml]; rfl) (a := b83) (own_pni l Z a0 hw b83 sa3 sa4 T89.heap n0 g_b83 f90 f91 Es4 (fun L p => (((D83 L p).keep Kq87 nin0).keep Kq89 nin0))) own_pd9 rfl rfl rfl (hb hby at_189) rfl ?_
    intro v92 T92 L92 X92 hQ92
    obtain ⟨rfl, Nq92, Kq92, Fa92, Fb92⟩ := hQ92
    have N92 := Fr.app N89 Nq92
    have HH93 := HH89.keep Kq92 (sfS (Safe.exa hZ.alike f90 (by decide) (by decide)) sf0)
    show own_Ends p e below _ (T92.setTop (mkF m 192 #[.val (.int p1), .val (.int p2), .val (.int p3), .val (.int n1), .val (.int l1), .val (.int n2), .val (.int l2), .val (.int mo), .val (.int p1), .val (.int c65), .val (.int c66), .val (.int c67), .val (.int c68), .val (.int c69), .val (.int c70), .val (.int c71), .val (.int c72), .val (.ref b73), .unset, .unset, .unset, .unset] [(.ref b83)]))
    refine own_astore X92 hx #[.val (.int p1), .val (.int p2), .val (.int p3), .val (.int n1), .val (.int l1), .val (.int n2), .val (.int l2), .val (.int mo), .val (.int p1), .val (.int c65), .val (.int c66), .val (.int c67), .val (.int c68), .val (.int c69), .val (.int c70), .val (.int c71), .val (.int c72), .val (.ref b73), .val (.ref b83), .unset, .unset, .unset] (hb hby at_192) rfl rfl rfl ?_
    refine own_iload X92 hx (hb hby at_194) rfl rfl ?_
    refine own_iconst X92 hx (2 : Int32) (hb hby at_196) (by decide) rfl ?_
    refine own_icmp_ne X92 hx (hb hby at_197) (by decide) rfl rfl (fun hc197_94 => ?_) (fun hc197_94 => ?_)
    · refine own_iload X92 hx (hb hby at_206) rfl rfl ?_
      refine own_iconst X92 hx (3 : Int32) (hb hby at_208) (by decide) rfl ?_
      refine own_icmp_ne X92 hx (hb hby at_209) (by decide) rfl rfl (fun hc209_95 => ?_) (fun hc209_95 => ?_)
      · refine own_aload X92 hx (hb hby at_225) rfl rfl rfl ?_
        refine own_astore X92 hx #[.val (.int p1), .val (.int p2), .val (.int p3), .val (.int n1), .val (.int l1), .val (.int n2), .val (.int l2), .val (.int mo), .val (.int p1), .val (.int c65), .val (.int c66), .val (.int c67), .val (.int c68), .val (.int c69), .val (.int c70), .val (.int c71), .val (.int c72), .val (.ref b73), .val (.ref b83), .val (.ref b83), .unset, .unset] (hb hby at_227) rfl rfl rfl ?_
        refine own_aload X92 hx (hb hby at_229) rfl rfl rfl ?_
        refine own_aload X92 hx (hb hby at_231) rfl rfl rfl ?_
        have f96 := ((f88.keep Kq89 all0).keep Kq92 (allS g_b83 all0))
        have f97 := (f90.keep Kq92)
        have f98 := ((((Fa81.ext E83).keep Kq87 nin0).keep Kq89 nin0).keep Kq92 (ninS (Nat.ne_of_lt (Nat.lt_of_lt_of_le Fa81.lt (Nat.le_of_eq g83.symm))) nin0))
        have f99 := ((((Fb81.ext E83).keep Kq87 nin0).keep Kq89 nin0).keep Kq92 (ninS (Nat.ne_of_lt (Nat.lt_of_lt_of_le Fa81.lt (Nat.le_of_eq g83.symm))) nin0))
        have f100 := (((((f80.keep Kq81).ext E83).keep Kq87).keep Kq89).keep Kq92)
        have f101 := ((((((Vs1.keep Kq78 nin0).keep Kq81 (ninS (ne_exa Es1 (A73.keep Kq76) (by decide)) nin0)).ext E83).keep Kq87 nin0).keep Kq89 nin0).keep Kq92 (ninS (Nat.ne_of_lt (Nat.lt_of_lt_of_le (f80.keep Kq81).lt (Nat.le_of_eq g83.symm))) nin0))
        have f102 := ((((((Cs1.keep Kq78 nin0).keep Kq81 (ninS (ne_exa Es1 (A73.keep Kq76) (by decide)) nin0)).ext E83).keep Kq87 nin0).keep Kq89 nin0).keep Kq92 (ninS (Nat.ne_of_lt (Nat.lt_of_lt_of_le (f80.keep Kq81).lt (Nat.le_of_eq g83.symm))) nin0))
        have f103 := ((((((Ks1.keep Kq78 nin0).keep Kq81 (ninS (Ne.symm (Exa.neArv (A73.keep Kq76) Ks1 (hw _ (List.mem_of_getElem? (i := 1) rfl)))) nin0)).ext E83).keep Kq87 nin0).keep Kq89 nin0).keep Kq92 (ninS (Nat.ne_of_lt (Nat.lt_of_lt_of_le ((Ks1.keep Kq78 nin0).keep Kq81 (ninS (Ne.symm (Exa.neArv (A73.keep Kq76) Ks1 (hw _ (List.mem_of_getElem? (i := 1) rfl)))) nin0)).lt (Nat.le_of_eq g83.symm))) nin0))
        have f104 := (((((Es2.keep Kq81).ext E83).keep Kq87).keep Kq89).keep Kq92)
        have f105 := (((((Vs2.keep Kq81 (ninS (ne_exa Es2 f79 (by decide)) nin0)).ext E83).keep Kq87 nin0).keep Kq89 nin0).keep Kq92 (ninS (Nat.ne_of_lt (Nat.lt_of_lt_of_le (Es2.keep Kq81).lt (Nat.le_of_eq g83.symm))) nin0))
        have f106 := (((((Cs2.keep Kq81 (ninS (ne_exa Es2 f79 (by decide)) nin0)).ext E83).keep Kq87 nin0).keep Kq89 nin0).keep Kq92 (ninS (Nat.ne_of_lt (Nat.lt_of_lt_of_le (Es2.keep Kq81).lt (Nat.le_of_eq g83.symm))) nin0))
        have f107 := (((((Ks2.keep Kq81 (ninS (Ne.symm (Exa.neArv f79 Ks2 (hw _ (List.mem_of_getElem? (i := 1) rfl)))) nin0)).ext E83).keep Kq87 nin0).keep Kq89 nin0).keep Kq92 (ninS (Nat.ne_of_lt (Nat.lt_of_lt_of_le (Ks2.keep Kq81 (ninS (Ne.symm (Exa.neArv f79 Ks2 (hw _ (List.mem_of_getElem? (i := 1) rfl)))) nin0)).lt (Nat.le_of_eq g83.symm))) nin0))
        have f108 := (f91.keep Kq92)
        have f109 := ((Vs3.keep Kq89 nin0).keep Kq92 (ninS (ne_exa Es3 (A83.keep Kq87) (by decide)) nin0))
        have f110 := ((Cs3.keep Kq89 nin0).keep Kq92 (ninS (ne_exa Es3 (A83.keep Kq87) (by decide)) nin0))
        have f111 := ((Ks3.keep Kq89 nin0).keep Kq92 (ninS (Ne.symm (Exa.neArv (A83.keep Kq87) Ks3 (hw _ (List.mem_of_getElem? (i := 1) rfl)))) nin0))
        have f112 := (Es4.keep Kq92)
        have f113 := (Vs4.keep Kq92 (ninS (ne_exa Es4 f90 (by decide)) nin0))
        have f114 := (Cs4.keep Kq92 (ninS (ne_exa Es4 f90 (by decide)) nin0))
        have f115 := (Ks4.keep Kq92 (ninS (Ne.symm (Exa.neArv f90 Ks4 (hw _ (List.mem_of_getElem? (i := 1) rfl)))) nin0))
        have f117 := (((((f79.keep Kq81).ext E83).keep Kq87).keep Kq89).keep Kq92)
        refine own_virtual X92 hx hZ (y := (⟨"com/example/lockstitch/lockstitch/engine/tree/PropertyName", "equals", "(Ljava/lang/Object;)Z"⟩ : MethodName)) (z := (⟨"com/example/lockstitch/lockstitch/engine/tree/PropertyName", "equals", "(Ljava/lang/Object;)Z"⟩ : MethodName)) hown (hw _ (List.mem_of_getElem? (i := 53) rfl)) (hw _ (List.mem_of_getElem? (i := 54) rfl)) (notFace_of_selects (args := #[]) (mvT hZ (hw _ (List.mem_of_getElem? (i := 56) rfl)))) (hw _ (List.mem_of_getElem? (i := 56) rfl)) (hw _ (List.mem_of_getElem? (i := 55) rfl)) (hw _ (List.mem_of_getElem? (i := 2) rfl)) (hw _ (List.mem_of_getElem? (i := 57) rfl)) (by decide) rfl (by decide) (W := 0) (by decide) (by decide) (by decide) [(.ref b83)] [] (by rw [hml]; rfl) f117 (own_eqP l Z a0 hw b73 b83 sa1 sa2 sa3 sa4 (own_mkl n1 c65 c66) (own_mkl l1 c67 c68) (own_mkl n2 c69 c70) (own_mkl l2 c71 c72) zc T92.heap n0 f96 SC hzc f97 f98 f99 Fa92 Fb92 ⟨_, _, _, _, _, f100, f101, f102, f103, cod1, hbd1, hle1⟩ ⟨_, _, _, _, _, f104, f105, f106, f107, cod2, hbd2, hle2⟩ ⟨_, _, _, _, _, f108, f109, f110, f111, cod3, hbd3, hle3⟩ ⟨_, _, _, _, _, f112, f113, f114, f115, cod4, hbd4, hle4⟩) own_pd7 rfl rfl rfl (hb hby at_233) rfl ?_
        intro v116 T116 L116 X116 hQ116
        obtain ⟨rfl, Nq116, hh116⟩ := hQ116
        have N116 := Fr.app N92 Nq116
        show own_Ends p e below _ (T116.setTop (mkF m 236 #[.val (.int p1), .val (.int p2), .val (.int p3), .val (.int n1), .val (.int l1), .val (.int n2), .val (.int l2), .val (.int mo), .val (.int p1), .val (.int c65), .val (.int c66), .val (.int c67), .val (.int c68), .val (.int c69), .val (.int c70), .val (.int c71), .val (.int c72), .val (.ref b73), .val (.ref b83), .val (.ref b83), .unset, .unset] [(.int (own_eqp (own_mkl n2 c69 c70) (own_mkl n1 c65 c66) (own_mkl l2 c71 c72) (own_mkl l1 c67 c68)))]))
        refine own_istore X116 hx #[.val (.int p1), .val (.int p2), .val (.int p3), .val (.int n1), .val (.int l1), .val (.int n2), .val (.int l2), .val (.int mo), .val (.int p1), .val (.int c65), .val (.int c66), .val (.int c67), .val (.int c68), .val (.int c69), .val (.int c70), .val (.int c71), .val (.int c72), .val (.ref b73), .val (.ref b83), .val (.ref b83), .val (.int (own_eqp (own_mkl n2 c69 c70) (own_mkl n1 c65 c66) (own_mkl l2 c71 c72) (own_mkl l1 c67 c68))), .unset] (hb hby at_236) rfl rfl ?_
        refine own_iload X116 hx (hb hby at_238) rfl rfl ?_
        refine own_iconst X116 hx (2 : Int32) (hb hby at_240) (by decide) rfl ?_
        refine own_icmpF X116 hx (hb hby at_241) rfl (tlt (own_lt2 hmo hc197_94 hc209_95)).2.1 ?_
        refine own_iloadN X116 hx (hb hby at_244) rfl rfl ?_
        refine own_iload X116 hx (hb hby at_245) rfl rfl ?_
        refine own_iload X116 hx (hb hby at_247) rfl rfl ?_
        refine own_iload X116 hx (hb hby at_249) rfl rfl ?_
        refine own_iload X116 hx (hb hby at_251) rfl rfl ?_
        refine own_iload X116 hx (hb hby at_253) rfl rfl ?_
        refine own_static X116 hx hZ (y := (⟨"com/example/lockstitch/lockstitch/engine/tree/PropertyNameEqualsPinLaw", "same", "(ICCICC)Z"⟩ : MethodName)) hown (hw _ (List.mem_of_getElem? (i := 70) rfl)) (hw _ (List.mem_of_getElem? (i := 71) rfl)) (hw _ (List.mem_of_getElem? (i := 5) rfl)) (hw _ (List.mem_of_getElem? (i := 72) rfl)) (by decide) hh116 (by decide) (W := 0) (by decide) (by decide) (by decide) [(.int n1), (.int c65), (.int c66), (.int n2), (.int c69), (.int c70)] [] (by rw [hml]; rfl) (own_sm l Z a0 hw n1 c65 c66 n2 c69 c70 T92.heap n0) own_pd10 rfl rfl rfl (hb hby at_255) rfl ?_
        intro v118 T118 L118 X118 hQ118
        obtain ⟨rfl, Nq118, hh118⟩ := hQ118
        have N118 := Fr.app N116 Nq118
        show own_Ends p e below _ (T118.setTop (mkF m 258 #[.val (.int p1), .val (.int p2), .val (.int p3), .val (.int n1), .val (.int l1), .val (.int n2), .val (.int l2), .val (.int mo), .val (.int p1), .val (.int c65), .val (.int c66), .val (.int c67), .val (.int c68), .val (.int c69), .val (.int c70), .val (.int c71), .val (.int c72), .val (.ref b73), .val (.ref b83), .val (.ref b83), .val (.int (own_eqp (own_mkl n2 c69 c70) (own_mkl n1 c65 c66) (own_mkl l2 c71 c72) (own_mkl l1 c67 c68))), .unset] [(.int (own_same n1 c65 c66 n2 c69 c70))]))
        refine own_if_eq X118 hx (hb hby at_258) (by decide) rfl rfl (fun hc258_119 => ?_) (fun hc258_119 => ?_)
        · refine own_iconst X118 hx (0 : Int32) (hb hby at_283) (by decide) rfl ?_
          refine own_istore X118 hx #[.val (.int p1), .val (.int p2), .val (.int p3), .val (.int n1), .val (.int l1), .val (.int n2), .val (.int l2), .val (.int mo), .val (.int p1), .val (.int c65), .val (.int c66), .val (.int c67), .val (.int c68), .val (.int c69), .val (.int c70), .val (.int c71), .val (.int c72), .val (.ref b73), .val (.ref b83), .val (.ref b83), .val (.int (own_eqp (own_mkl n2 c69 c70) (own_mkl n1 c65 c66) (own_mkl l2 c71 c72) (own_mkl l1 c67 c68))), .val (.int (0 : Int32))] (hb hby at_284) rfl rfl ?_
          refine own_iload X118 hx (hb hby at_286) rfl rfl ?_
          refine own_iload X118 hx (hb hby at_288) rfl rfl ?_
          refine own_icmpF X118 hx (hb hby at_290) rfl (teq ((own_fin hn1 hl1 hn2 hl2 _ _ _ _ _ _ _ _).trans (by simp [hc209_95, hc258_119]))).2 ?_
          refine own_iconst X118 hx (1 : Int32) (hb hby at_293) (by decide) rfl ?_
          refine own_goto X118 hx (hb hby at_294) (by decide) rfl ?_
          exact own_retNH X118 hx hZ hh118 HH93 hEL hlocks hret (by simp) (hb hby at_298) (by decide) (by decide) (by decide) ⟨rfl, N118⟩
        · refine own_iload X118 hx (hb hby at_261) rfl rfl ?_
          refine own_iload X118 hx (hb hby at_263) rfl rfl ?_
          refine own_iload X118 hx (hb hby at_265) rfl rfl ?_
          refine own_iload X118 hx (hb hby at_267) rfl rfl ?_
          refine own_iload X118 hx (hb hby at_269) rfl rfl ?_
          refine own_iload X118 hx (hb hby at_271) rfl rfl ?_
          refine own_static X118 hx hZ (y := (⟨"com/example/lockstitch/lockstitch/engine/tree/PropertyNameEqualsPinLaw", "same", "(ICCICC)Z"⟩ : MethodName)) hown (hw _ (List.mem_of_getElem? (i := 70) rfl)) (hw _ (List.mem_of_getElem? (i := 71) rfl)) (hw _ (List.mem_of_getElem? (i := 5) rfl)) (hw _ (List.mem_of_getElem? (i := 72) rfl)) (by decide) hh118 (by decide) (W := 0) (by decide) (by decide) (by decide) [(.int l1), (.int c67), (.int c68), (.int l2), (.int c71), (.int c72)] [] (by rw [hml]; rfl) (own_sm l Z a0 hw l1 c67 c68 l2 c71 c72 T92.heap n0) own_pd10 rfl rfl rfl (hb hby at_273) rfl ?_
          intro v120 T120 L120 X120 hQ120
          obtain ⟨rfl, Nq120, hh120⟩ := hQ120
          have N120 := Fr.app N118 Nq120
          show own_Ends p e below _ (T120.setTop (mkF m 276 #[.val (.int p1), .val (.int p2), .val (.int p3), .val (.int n1), .val (.int l1), .val (.int n2), .val (.int l2), .val (.int mo), .val (.int p1), .val (.int c65), .val (.int c66), .val (.int c67), .val (.int c68), .val (.int c69), .val (.int c70), .val (.int c71), .val (.int c72), .val (.ref b73), .val (.ref b83), .val (.ref b83), .val (.int (own_eqp (own_mkl n2 c69 c70) (own_mkl n1 c65 c66) (own_mkl l2 c71 c72) (own_mkl l1 c67 c68))), .unset] [(.int (own_same l1 c67 c68 l2 c71 c72))]))
          refine own_if_eq X120 hx (hb hby at_276) (by decide) rfl rfl (fun hc276_121 => ?_) (fun hc276_121 => ?_)
          · refine own_iconst X120 hx (0 : Int32) (hb hby at_283) (by decide) rfl ?_
            refine own_istore X120 hx #[.val (.int p1), .val (.int p2), .val (.int p3), .val (.int n1), .val (.int l1), .val (.int n2), .val (.int l2), .val (.int mo), .val (.int p1), .val (.int c65), .val (.int c66), .val (.int c67), .val (.int c68), .val (.int c69), .val (.int c70), .val (.int c71), .val (.int c72), .val (.ref b73), .val (.ref b83), .val (.ref b83), .val (.int (own_eqp (own_mkl n2 c69 c70) (own_mkl n1 c65 c66) (own_mkl l2 c71 c72) (own_mkl l1 c67 c68))), .val (.int (0 : Int32))] (hb hby at_284) rfl rfl ?_
            refine own_iload X120 hx (hb hby at_286) rfl rfl ?_
            refine own_iload X120 hx (hb hby at_288) rfl rfl ?_
            refine own_icmpF X120 hx (hb hby at_290) rfl (teq ((own_fin hn1 hl1 hn2 hl2 _ _ _ _ _ _ _ _).trans (by simp [hc258_119, hc276_121]))).2 ?_
            refine own_iconst X120 hx (1 : Int32) (hb hby at_293) (by decide) rfl ?_
            refine own_goto X120 hx (hb hby at_294) (by decide) rfl ?_
            exact own_retNH X120 hx hZ hh120 HH93 hEL hlocks hret (by simp) (hb hby at_298) (by decide) (by decide) (by decide) ⟨rfl, N120⟩
          · refine own_iconst X120 hx (1 : Int32) (hb hby at_279) (by decide) rfl ?_
            refine own_goto X120 hx (hb hby at_280) (by decide) rfl ?_
            refine own_istore X120 hx #[.val (.int p1), .val (.int p2), .val (.int p3), .val (.int n1), .val (.int l1), .val (.int n2), .val (.int l2), .val (.int mo), .val (.int p1), .val (.int c65), .val (.int c66), .val (.int c67), .val (.int c68), .val (.int c69), .val (.int c70), .val (.int c71), .val (.int c72), .val (.ref b73), .val (.ref b83), .val (.ref b83), .val (.int (own_eqp (own_mkl n2 c69 c70) (own_mkl n1 c65 c66) (own_mkl l2 c71 c72) (own_mkl l1 c67 c68))), .val (.int (1 : Int32))] (hb hby at_284) rfl rfl ?_
            refine own_iload X120 hx (hb hby at_286) rfl rfl ?_
            refine own_iload X120 hx (hb hby at_288) rfl rfl ?_
            refine own_icmpF X120 hx (hb hby at_290) rfl (teq ((own_fin hn1 hl1 hn2 hl2 _ _ _ _ _ _ _ _).trans (by simp [hc258_119, hc276_121]))).2 ?_
            refine own_iconst X120 hx (1 : Int32) (hb hby at_293) (by decide) rfl ?_
            refine own_goto X120 hx (hb hby at_294) (by decide) rfl ?_
            exact own_retNH X120 hx hZ hh120 HH93 hEL hlocks hret (by simp) (hb hby at_298) (by decide) (by decide) (by decide) ⟨rfl, N120⟩
      · refine own_iloadN X92 hx (hb hby at_212) rfl rfl ?_
        refine own_iload X92 hx (hb hby at_213) rfl rfl ?_
        refine own_iload X92 hx (hb hby at_215) rfl rfl ?_
        have f122 := ((f88.keep Kq89 all0).keep Kq92 (allS g_b83 all0))
        refine own_staticH X92 hx hZ (y := (⟨"com/example/lockstitch/lockstitch/engine/tree/PropertyNameEqualsPinLaw", "mk", "(ICC)Ljava/lang/String;"⟩ : MethodName)) hown (hw _ (List.mem_of_getElem? (i := 3) rfl)) (hw _ (List.mem_of_getElem? (i := 4) rfl)) (hw _ (List.mem_of_getElem? (i := 5) rfl)) (hw _ (List.mem_of_getElem? (i := 6) rfl)) (by decide) HH93 hEL rfl (by decide) (W := 0) (by decide) (by decide) (by decide) [(.int n1), (.int c65), (.int c66)] [] (by rw [hml]; rfl) (own_mk l Z a0 hw n1 c65 c66 zc T92.heap n0 hEL f122 hc65 hc66 SC hzc) own_pd8 rfl rfl rfl (hb hby at_217) rfl ?_
        intro v123 T123 L123 X123 hQ123 hZ hown HH123 A123
        obtain ⟨sa5, rfl, Nq123, Kq123, Ss123⟩ := hQ123
        have N123 := Fr.app N92 Nq123
        obtain ⟨t5, kb5, cd5, Nn5, vs5, Es5, Vs5, Cs5, Ks5, cod5, hbd5, hle5⟩ := Ss123
        show own_Ends p e below _ (T123.setTop (mkF m 220 #[.val (.int p1), .val (.int p2), .val (.int p3), .val (.int n1), .val (.int l1), .val (.int n2), .val (.int l2), .val (.int mo), .val (.int p1), .val (.int c65), .val (.int c66), .val (.int c67), .val (.int c68), .val (.int c69), .val (.int c70), .val (.int c71), .val (.int c72), .val (.ref b73), .val (.ref b83), .unset, .unset, .unset] [(.ref sa5)]))
        refine own_astore X123 hx #[.val (.int p1), .val (.int p2), .val (.int p3), .val (.int n1), .val (.int l1), .val (.int n2), .val (.int l2), .val (.int mo), .val (.int p1), .val (.int c65), .val (.int c66), .val (.int c67), .val (.int c68), .val (.int c69), .val (.int c70), .val (.int c71), .val (.int c72), .val (.ref b73), .val (.ref b83), .val (.ref sa5), .unset, .unset] (hb hby at_220) rfl rfl rfl ?_
        refine own_goto X123 hx (hb hby at_222) (by decide) rfl ?_
        refine own_aload X123 hx (hb hby at_229) rfl rfl rfl ?_
        refine own_aload X123 hx (hb hby at_231) rfl rfl rfl ?_
        have f125 := ((((((f79.keep Kq81).ext E83).keep Kq87).keep Kq89).keep Kq92).keep Kq123)
        refine own_virtual X123 hx hZ (y := (⟨"com/example/lockstitch/lockstitch/engine/tree/PropertyName", "equals", "(Ljava/lang/Object;)Z"⟩ : MethodName)) (z := (⟨"com/example/lockstitch/lockstitch/engine/tree/PropertyName", "equals", "(Ljava/lang/Object;)Z"⟩ : MethodName)) hown (hw _ (List.mem_of_getElem? (i := 53) rfl)) (hw _ (List.mem_of_getElem? (i := 54) rfl)) (notFace_of_selects (args := #[]) (mvT hZ (hw _ (List.mem_of_getElem? (i := 56) rfl)))) (hw _ (List.mem_of_getElem? (i := 56) rfl)) (hw _ (List.mem_of_getElem? (i := 55) rfl)) (hw _ (List.mem_of_getElem? (i := 2) rfl)) (hw _ (List.mem_of_getElem? (i := 57) rfl)) (by decide) rfl (by decide) (W := 0) (by decide) (by decide) (by decide) [(.ref sa5)] [] (by rw [hml]; rfl) f125 (own_eqS l Z a0 hw b73 sa5 T123.heap n0 Es5) own_pd7 rfl rfl rfl (hb hby at_233) rfl ?_
        intro v124 T124 L124 X124 hQ124
        obtain ⟨rfl, Nq124, hh124⟩ := hQ124
        have N124 := Fr.app N123 Nq124
        show own_Ends p e below _ (T124.setTop (mkF m 236 #[.val (.int p1), .val (.int p2), .val (.int p3), .val (.int n1), .val (.int l1), .val (.int n2), .val (.int l2), .val (.int mo), .val (.int p1), .val (.int c65), .val (.int c66), .val (.int c67), .val (.int c68), .val (.int c69), .val (.int c70), .val (.int c71), .val (.int c72), .val (.ref b73), .val (.ref b83), .val (.ref sa5), .unset, .unset] [(.int (0 : Int32))]))
        refine own_istore X124 hx #[.val (.int p1), .val (.int p2), .val (.int p3), .val (.int n1), .val (.int l1), .val (.int n2), .val (.int l2), .val (.int mo), .val (.int p1), .val (.int c65), .val (.int c66), .val (.int c67), .val (.int c68), .val (.int c69), .val (.int c70), .val (.int c71), .val (.int c72), .val (.ref b73), .val (.ref b83), .val (.ref sa5), .val (.int (0 : Int32)), .unset] (hb hby at_236) rfl rfl ?_
        refine own_iload X124 hx (hb hby at_238) rfl rfl ?_
        refine own_iconst X124 hx (2 : Int32) (hb hby at_240) (by decide) rfl ?_
        refine own_icmpT X124 hx (hb hby at_241) (by decide) rfl (by rw [hc209_95]; decide) ?_
        refine own_iconst X124 hx (0 : Int32) (hb hby at_283) (by decide) rfl ?_
        refine own_istore X124 hx #[.val (.int p1), .val (.int p2), .val (.int p3), .val (.int n1), .val (.int l1), .val (.int n2), .val (.int l2), .val (.int mo), .val (.int p1), .val (.int c65), .val (.int c66), .val (.int c67), .val (.int c68), .val (.int c69), .val (.int c70), .val (.int c71), .val (.int c72), .val (.ref b73), .val (.ref b83), .val (.ref sa5), .val (.int (0 : Int32)), .val (.int (0 : Int32))] (hb hby at_284) rfl rfl ?_
        refine own_iload X124 hx (hb hby at_286) rfl rfl ?_
        refine own_iload X124 hx (hb hby at_288) rfl rfl ?_
        refine own_icmpF X124 hx (hb hby at_290) rfl (by decide) ?_
        refine own_iconst X124 hx (1 : Int32) (hb hby at_293) (by decide) rfl ?_
        refine own_goto X124 hx (hb hby at_294) (by decide) rfl ?_
        exact own_retNH X124 hx hZ hh124 HH123 hEL hlocks hret (by simp) (hb hby at_298) (by decide) (by decide) (by decide) ⟨rfl, N124⟩
    · refine own_aconst_null X92 hx (hb hby at_200) rfl ?_
      refine own_astore X92 hx #[.val (.int p1), .val (.int p2), .val (.int p3), .val (.int n1), .val (.int l1), .val (.int n2), .val (.int l2), .val (.int mo), .val (.int p1), .val (.int c65), .val (.int c66), .val (.int c67), .val (.int c68), .val (.int c69), .val (.int c70), .val (.int c71), .val (.int c72), .val (.ref b73), .val (.ref b83), .val .null, .unset, .unset] (hb hby at_201) rfl rfl rfl ?_
      refine own_goto X92 hx (hb hby at_203) (by decide) rfl ?_
      refine own_aload X92 hx (hb hby at_229) rfl rfl rfl ?_
      refine own_aload X92 hx (hb hby at_231) rfl rfl rfl ?_
      have f127 := (((((f79.keep Kq81).ext E83).keep Kq87).keep Kq89).keep Kq92)
      refine own_virtual X92 hx hZ (y := (⟨"com/example/lockstitch/lockstitch/engine/tree/PropertyName", "equals", "(Ljava/lang/Object;)Z"⟩ : MethodName)) (z := (⟨"com/example/lockstitch/lockstitch/engine/tree/PropertyName", "equals", "(Ljava/lang/Object;)Z"⟩ : MethodName)) hown (hw _ (List.mem_of_getElem? (i := 53) rfl)) (hw _ (List.mem_of_getElem? (i := 54) rfl)) (notFace_of_selects (args := #[]) (mvT hZ (hw _ (List.mem_of_getElem? (i := 56) rfl)))) (hw _ (List.mem_of_getElem? (i := 56) rfl)) (hw _ (List.mem_of_getElem? (i := 55) rfl)) (hw _ (List.mem_of_getElem? (i := 2) rfl)) (hw _ (List.mem_of_getElem? (i := 57) rfl)) (by decide) rfl (by decide) (W := 0) (by decide) (by decide) (by decide) [.null] [] (by rw [hml]; rfl) f127 (own_eqN l Z a0 hw b73 T92.heap n0) own_pd7 rfl rfl rfl (hb hby at_233) rfl ?_
      intro v126 T126 L126 X126 hQ126
      obtain ⟨rfl, Nq126, hh126⟩ := hQ126
      have N126 := Fr.app N92 Nq126
      show own_Ends p e below _ (T126.setTop (mkF m 236 #[.val (.int p1), .val (.int p2), .val (.int p3), .val (.int n1), .val (.int l1), .val (.int n2), .val (.int l2), .val (.int mo), .val (.int p1), .val (.int c65), .val (.int c66), .val (.int c67), .val (.int c68), .val (.int c69), .val (.int c70), .val (.int c71), .val (.int c72), .val (.ref b73), .val (.ref b83), .val .null, .unset, .unset] [(.int (0 : Int32))]))
      refine own_istore X126 hx #[.val (.int p1), .val (.int p2), .val (.int p3), .val (.int n1), .val (.int l1), .val (.int n2), .val (.int l2), .val (.int mo), .val (.int p1), .val (.int c65), .val (.int c66), .val (.int c67), .val (.int c68), .val (.int c69), .val (.int c70), .val (.int c71), .val (.int c72), .val (.ref b73), .val (.ref b83), .val .null, .val (.int (0 : Int32)), .unset] (hb hby at_236) rfl rfl ?_
      refine own_iload X126 hx (hb hby at_238) rfl rfl ?_
      refine own_iconst X126 hx (2 : Int32) (hb hby at_240) (by decide) rfl ?_
      refine own_icmpT X126 hx (hb hby at_241) (by decide) rfl (by rw [hc197_94]; decide) ?_
      refine own_iconst X126 hx (0 : Int32) (hb hby at_283) (by decide) rfl ?_
      refine own_istore X126 hx #[.val (.int p1), .val (.int p2), .val (.int p3), .val (.int n1), .val (.int l1), .val (.int n2), .val (.int l2), .val (.int mo), .val (.int p1), .val (.int c65), .val (.int c66), .val (.int c67), .val (.int c68), .val (.int c69), .val (.int c70), .val (.int c71), .val (.int c72), .val (.ref b73), .val (.ref b83), .val .null, .val (.int (0 : Int32)), .val (.int (0 : Int32))] (hb hby at_284) rfl rfl ?_
      refine own_iload X126 hx (hb hby at_286) rfl rfl ?_
      refine own_iload X126 hx (hb hby at_288) rfl rfl ?_
      refine own_icmpF X126 hx (hb hby at_290) rfl (by decide) ?_
      refine own_iconst X126 hx (1 : Int32) (hb hby at_293) (by decide) rfl ?_
      refine own_goto X126 hx (hb hby at_294) (by decide) rfl ?_
      exact own_retNH X126 hx hZ hh126 HH93 hEL hlocks hret (by simp) (hb hby at_298) (by decide) (by decide) (by decide) ⟨rfl, N126⟩
set_option maxRecDepth 65536 in
set_option maxHeartbeats 40000000 in
theorem comes_1 {Post : Tables → Env → Array Value → State → Outcome → State → Prop} (hpost : ∀ tb e args s v u, (limb_1_1.after args s (.returned v) u = true ∧ limb_1_2.after args s (.returned v) u = true ∧ True) → ReturnedEndW s (.returned v) u (Jvm.fieldLocs frame_1_writes args s ++ Jvm.arrayLocs frame_1_arrays args s ++ Jvm.staticLocs frame_1_statics s) 48 1216 → Post tb e args s (.returned v) u) :
    ArmFor flags0 classFile x code maxLocals ret World_1 tables_1 room_1 Calls_1 rest_1 Pre_1 Post := by
  intro l hfl _ _ p e ha hc hk s m args below hf hA hF happ hP
  obtain ⟨hcalls, hrest, hpre⟩ := hP
  obtain ⟨-, -, -, hnamed, -, -, -, hat⟩ := (Spec.applies_iff hf).mp happ
  obtain ⟨hg, hn⟩ := and_e (Cond.before_iff.mp (show (Jvm.Cond.and given_1 narrow_1).before args s = true from hpre))
  obtain ⟨k1a, k1b⟩ := and_e hg
  obtain ⟨k2a, k2b⟩ := and_e k1b
  obtain ⟨k3a, k3b⟩ := and_e k2b
  obtain ⟨w0, w1, w2, rfl⟩ : ∃ w0 w1 w2 : Value, args = #[w0, w1, w2] := by
    have hs : args.size = 3 := by simpa [Cond.value, given_1] using k1a
    obtain ⟨L⟩ := args
    match L, hs with
    | [w0, w1, w2], _ => exact ⟨w0, w1, w2, rfl⟩
  have hw := fun d (hd : d ∈ tables_1) => atoms_spec (ws := Jvm.Cond.code x code maxLocals ret :: tables_1) hat d (List.mem_cons_of_mem _ hd)
  have hfit : Fit s := fun {y c} hc i hi => by
    obtain ⟨ha, rfl⟩ := Array.getElem?_eq_some_iff.mp hc
    have q := List.all_eq_true.mp ((Array.all_eq_true_iff_forall_mem.mp hF) _ (Array.getElem_mem ha)) i (List.mem_range.mpr hi)
    simpa [Array.getElem?_eq_getElem hi] using q
  obtain ⟨hsets, hown0⟩ := atoms_of _ (rest_1_c_eq ▸ (show rest_1_c.before _ s = true from hrest))
  obtain ⟨i0, ei0⟩ := is_v k2a
  obtain rfl : w0 = (.int i0) := Option.some.inj ei0
  obtain ⟨i1, ei1⟩ := is_v k3a
  obtain rfl : w1 = (.int i1) := Option.some.inj ei1
  obtain ⟨i2, ei2⟩ := is_v k3b
  obtain rfl : w2 = (.int i2) := Option.some.inj ei2
  have nzc := not_v (Cond.before_iff.mp (hsets _ (List.mem_of_getElem? (i := 2) rfl)))
  obtain ⟨zc, ezc⟩ := is_v (Cond.before_iff.mp (hsets _ (List.mem_of_getElem? (i := 1) rfl)))
  have SC := Sta.start ezc (Or.inl (hsets _ (List.mem_of_getElem? (i := 0) rfl)))
  have hzc : ¬ (zc = (0 : Int32)) := gotF (Cond.eq_ints ezc (Term.int_eval (0))) nzc
  have hEL : EW s _ consts_1 := (EW.cons (hw _ (List.mem_of_getElem? (i := 37) rfl)) (by decide) EW.nil)
  have hCH := CHv.start hEL (fun p hp => (hcalls.1 p hp :)) (show Jvm.Lit.compactW.before _ s = true from (hsets _ (List.mem_of_getElem? (i := 2) rfl))) (hw _ (List.mem_of_getElem? (i := 26) rfl)) (hw _ (List.mem_of_getElem? (i := 8) rfl))
  obtain ⟨n, o, h1, h2, h3, _, L, rfl, ⟨rfl, N⟩, hC, hq⟩ := own_law l s _ hw i0 i1 i2 zc s.heap s.heap.size hEL (Old.start s) SC hzc tables_1 p e ha hc hk s m _ below hf ((Spec.applies_iff_loose hf).mp happ).1 ⟨rfl, State.Warmed39.refl s, rfl, hCH⟩ trivial
  refine ⟨n, _, h1, h2, h3, hpost _ _ _ _ _ _ ⟨Cond.after_iff.mpr rfl, Cond.after_iff.mpr (eq_i res_at (Term.int_eval (1)) rfl), trivial⟩ ⟨hq.1, hq.2.1, hq.2.2.1, (hq.2.2.2.sift fun y hy => Or.inr (N y hy)).mono (by decide) (by decide)⟩⟩
theorem main_1_1 : Claimed_1_1 := comes_1 fun _ _ _ _ _ _ h hF => ⟨h.1, hF⟩
theorem main_1_2 : Claimed_1_2 := comes_1 fun _ _ _ _ _ _ h hF => ⟨h.2.1, hF⟩
end Jvm.Pilot.@@N@@
namespace Jvm.Pilot.@@N@@
open Jvm Jvm.ClassFile Sem Op Lib Jvm.Free Jvm.Stand Jvm.Pilot.@@N@@.Jvm.D
/-! MADE BY PROGRAM (witnessworld.py) out of the Statement's table words and the real class files: 21 classes; the members and pool entries that the words name. The judged class is class 1, her method 1. -/
namespace start1
open Jvm.ClassFile
def u (s : String) : CpInfo := .utf8 (stringToUtf16 s)
/-- a pool by its gaps: so many unusable entries, then the entry; so many at the end -/
def gap : Nat → List CpInfo → List CpInfo
  | 0, r => r
  | n + 1, r => .unusable :: gap n r
def poolList (es : List (Nat × CpInfo)) (last : Nat) : List CpInfo := es.foldr (fun e r => gap e.1 (e.2 :: r)) (gap last [])
def pool (es : List (Nat × CpInfo)) (last : Nat) : Array CpInfo := ⟨poolList es last⟩
def fileOf (pool : Array CpInfo) (this : Nat) (attrs : Array Attribute := #[]) (ms : Array MethodInfo := #[]) (fl : Nat := 33) (sup : Nat := 0) (ifs : Array Nat := #[]) (fds : Array FieldInfo := #[]) : ClassFile where
  minorVersion := 0
  majorVersion := 65
  constantPool := pool
  accessFlags := fl
  thisClass := this
  superClass := sup
  interfaces := ifs
  fields := fds
  methods := ms
  attributes := attrs
def plain (name : String) (sup : Option ClassId) : Class where
  name := name
  kind := .ordinary
  loader := none
  accessFlags := 33
  super := sup
  interfaces := #[]
  cf := none
  fields := #[]
  methods := #[]
  instanceTypes := #[]
  staticTypes := #[]
  resolved := #[]
  callSites := []
  init := .initialized
  statics := none
  mirror := none

def pool0 : Array CpInfo := pool [(5, u "<init>"), (0, u "()V"), (1, .class_ 10), (1, u "java/lang/Object")] 113

def k0c0 : Code := { maxStack := 0, maxLocals := 1, code := object_method_1_code, exceptionTable := #[], attributes := #[] }
def k0m0 : Method := { name := "<init>", desc := "()V", sig := { parameters := [], returnType := none }, accessFlags := 1, code := some k0c0 }
/-- java/lang/Object -/
def k0 : Class := { plain "java/lang/Object" none with
  accessFlags := 33
  interfaces := #[]
  cf := some (fileOf pool0 8 #[] #[{ accessFlags := 1, nameIndex := 5, descriptorIndex := 6, attributes := #[] }] 33 0 #[] #[])
  fields := #[]
  methods := #[k0m0]
  instanceTypes := #[]
  staticTypes := #[]
  resolved := Array.replicate 124 none
  statics := none }

def pool1 : Array CpInfo := pool [(2, .class_ 4), (1, u "java/lang/Object"), (0, u "<init>"), (0, u "()V"), (0, .class_ 8), (0, u "com/example/lockstitch/lockstitch/engine/tree/PropertyName"), (0, .methodref 10 11), (0, .class_ 12), (0, .nameAndType 13 14), (0, u "com/example/lockstitch/lockstitch/engine/tree/PropertyNameEqualsPinLaw"), (0, u "mk"), (0, u "(ICC)Ljava/lang/String;"), (0, .methodref 7 16), (0, .nameAndType 5 17), (0, u "(Ljava/lang/String;Ljava/lang/String;)V"), (0, .methodref 7 19), (0, .nameAndType 20 21), (0, u "equals"), (0, u "(Ljava/lang/Object;)Z"), (0, .methodref 10 23), (0, .nameAndType 24 25), (0, u "same"), (0, u "(ICCICC)Z"), (0, .class_ 27), (0, u "java/lang/String"), (0, .methodref 26 29), (0, .nameAndType 5 30), (0, u "([C)V"), (0, .methodref 26 32), (0, .nameAndType 33 34), (0, u "valueOf"), (0, u "(C)Ljava/lang/String;"), (2, u "law"), (0, u "(III)Z")] 3

def k1m0 : Method := { name := "<init>", desc := "()V", sig := { parameters := [], returnType := none }, accessFlags := 1, code := none }
def k1c1 : Code := { maxStack := 6, maxLocals := 22, code := code, exceptionTable := #[], attributes := #[] }
def k1m1 : Method := { name := "law", desc := "(III)Z", sig := { parameters := [.int, .int, .int], returnType := some .boolean }, accessFlags := 9, code := some k1c1 }
def k1c2 : Code := { maxStack := 2, maxLocals := 6, code := method_3_code, exceptionTable := #[], attributes := #[] }
def k1m2 : Method := { name := "same", desc := "(ICCICC)Z", sig := { parameters := [.int, .char, .char, .int, .char, .char], returnType := some .boolean }, accessFlags := 10, code := some k1c2 }
def k1c3 : Code := { maxStack := 6, maxLocals := 3, code := method_4_code, exceptionTable := #[], attributes := #[] }
def k1m3 : Method := { name := "mk", desc := "(ICC)Ljava/lang/String;", sig := { parameters := [.int, .char, .char], returnType := some (.object "java/lang/String") }, accessFlags := 10, code := some k1c3 }
/-- com/example/lockstitch/lockstitch/engine/tree/PropertyNameEqualsPinLaw -/
def k1 : Class := { plain "com/example/lockstitch/lockstitch/engine/tree/PropertyNameEqualsPinLaw" (some 0) with
  accessFlags := 49
  interfaces := #[]
  cf := some (fileOf pool1 10 #[] #[{ accessFlags := 1, nameIndex := 5, descriptorIndex := 6, attributes := #[] }, { accessFlags := 9, nameIndex := 37, descriptorIndex := 38, attributes := #[] }, { accessFlags := 10, nameIndex := 24, descriptorIndex := 25, attributes := #[] }, { accessFlags := 10, nameIndex := 13, descriptorIndex := 14, attributes := #[] }] 49 2 #[] #[])
  fields := #[]
  methods := #[k1m0, k1m1, k1m2, k1m3]
  instanceTypes := #[]
  staticTypes := #[]
  resolved := Array.replicate 42 none
  statics := none }

def pool2 : Array CpInfo := pool [(1, .methodref 2 3), (0, .class_ 4), (0, .nameAndType 5 6), (0, u "java/lang/Object"), (0, u "<init>"), (0, u "()V"), (0, .methodref 8 9), (0, .class_ 10), (0, .nameAndType 11 12), (0, u "java/util/Objects"), (0, u "requireNonNull"), (0, u "(Ljava/lang/Object;)Ljava/lang/Object;"), (0, .class_ 14), (0, u "java/lang/String"), (0, .fieldref 16 17), (0, .class_ 18), (0, .nameAndType 19 20), (0, u "com/example/lockstitch/lockstitch/engine/tree/PropertyName"), (0, u "namespace"), (0, u "Ljava/lang/String;"), (0, .fieldref 16 22), (0, .nameAndType 23 20), (0, u "localName"), (4, .methodref 13 29), (0, .nameAndType 30 31), (0, u "equals"), (0, u "(Ljava/lang/Object;)Z"), (8, u "(Ljava/lang/String;Ljava/lang/String;)V")] 23

def k2c0 : Code := { maxStack := 2, maxLocals := 3, code := prog_22_method_1_code, exceptionTable := #[], attributes := #[] }
def k2m0 : Method := { name := "<init>", desc := "(Ljava/lang/String;Ljava/lang/String;)V", sig := { parameters := [(.object "java/lang/String"), (.object "java/lang/String")], returnType := none }, accessFlags := 1, code := some k2c0 }
def k2c1 : Code := { maxStack := 2, maxLocals := 3, code := prog_22_method_5_code, exceptionTable := #[], attributes := #[] }
def k2m1 : Method := { name := "equals", desc := "(Ljava/lang/Object;)Z", sig := { parameters := [(.object "java/lang/Object")], returnType := some .boolean }, accessFlags := 1, code := some k2c1 }
/-- com/example/lockstitch/lockstitch/engine/tree/PropertyName -/
def k2 : Class := { plain "com/example/lockstitch/lockstitch/engine/tree/PropertyName" (some 0) with
  accessFlags := 49
  interfaces := #[]
  cf := some (fileOf pool2 16 #[] #[{ accessFlags := 1, nameIndex := 5, descriptorIndex := 40, attributes := #[] }, { accessFlags := 1, nameIndex := 30, descriptorIndex := 31, attributes := #[] }] 49 2 #[] #[{ accessFlags := 18, nameIndex := 19, descriptorIndex := 20, attributes := #[] }, { accessFlags := 18, nameIndex := 23, descriptorIndex := 20, attributes := #[] }])
  fields := #[{ name := "namespace", type := (.object "java/lang/String"), accessFlags := 18, slot := 0, constantValue := 0 }, { name := "localName", type := (.object "java/lang/String"), accessFlags := 18, slot := 1, constantValue := 0 }]
  methods := #[k2m0, k2m1]
  instanceTypes := #[(.object "java/lang/String"), (.object "java/lang/String")]
  staticTypes := #[]
  resolved := Array.replicate 64 none
  statics := none }

def pool3 : Array CpInfo := pool [(1, .class_ 2), (0, u "java/io/Serializable"), (0, .class_ 4), (0, u "java/lang/Object")] 2

/-- java/io/Serializable -/
def k3 : Class := { plain "java/io/Serializable" (some 0) with
  accessFlags := 1537
  interfaces := #[]
  cf := some (fileOf pool3 1 #[] #[] 1537 3 #[] #[])
  fields := #[]
  methods := #[]
  instanceTypes := #[]
  staticTypes := #[]
  resolved := Array.replicate 7 none
  statics := none }

def pool4 : Array CpInfo := pool [(1, .class_ 2), (0, u "java/lang/Comparable"), (0, .class_ 4), (0, u "java/lang/Object")] 7

/-- java/lang/Comparable -/
def k4 : Class := { plain "java/lang/Comparable" (some 0) with
  accessFlags := 1537
  interfaces := #[]
  cf := some (fileOf pool4 1 #[] #[] 1537 3 #[] #[])
  fields := #[]
  methods := #[]
  instanceTypes := #[]
  staticTypes := #[]
  resolved := Array.replicate 12 none
  statics := none }

def pool5 : Array CpInfo := pool [(2, .class_ 4), (1, u "java/lang/CharSequence"), (42, .class_ 48), (0, u "java/lang/CharSequence$1CodePointIterator"), (10, .class_ 60), (0, u "java/lang/CharSequence$1CharIterator"), (5, .class_ 67), (0, u "java/lang/Object")] 63

/-- java/lang/CharSequence -/
def k5 : Class := { plain "java/lang/CharSequence" (some 0) with
  accessFlags := 1537
  interfaces := #[]
  cf := some (fileOf pool5 2 #[.nestMembers #[47, 59]] #[] 1537 66 #[] #[])
  fields := #[]
  methods := #[]
  instanceTypes := #[]
  staticTypes := #[]
  resolved := Array.replicate 131 none
  statics := none }

def pool6 : Array CpInfo := pool [(1, .class_ 2), (0, u "java/lang/constant/Constable"), (0, .class_ 4), (0, u "java/lang/Object")] 6

/-- java/lang/constant/Constable -/
def k6 : Class := { plain "java/lang/constant/Constable" (some 0) with
  accessFlags := 1537
  interfaces := #[]
  cf := some (fileOf pool6 1 #[] #[] 1537 3 #[] #[])
  fields := #[]
  methods := #[]
  instanceTypes := #[]
  staticTypes := #[]
  resolved := Array.replicate 11 none
  statics := none }

def pool7 : Array CpInfo := pool [(1, .class_ 2), (0, u "java/lang/constant/ConstantDesc"), (0, .class_ 4), (0, u "java/lang/Object")] 32

/-- java/lang/constant/ConstantDesc -/
def k7 : Class := { plain "java/lang/constant/ConstantDesc" (some 0) with
  accessFlags := 1537
  interfaces := #[]
  cf := some (fileOf pool7 1 #[] #[] 1537 3 #[] #[])
  fields := #[]
  methods := #[]
  instanceTypes := #[]
  staticTypes := #[]
  resolved := Array.replicate 37 none
  statics := none }

def pool8 : Array CpInfo := pool [(1, .methodref 2 3), (0, .class_ 4), (0, .nameAndType 5 6), (0, u "java/lang/Object"), (0, u "<init>"), (0, u "()V"), (0, .string 8), (0, u ""), (0, .fieldref 10 11), (0, .class_ 12), (0, .nameAndType 13 14), (0, u "java/lang/String"), (0, u "value"), (0, u "[B"), (0, .fieldref 10 16), (0, .nameAndType 17 18), (0, u "coder"), (0, u "B"), (2, u "hash"), (0, u "I"), (2, u "hashIsZero"), (0, u "Z"), (0, .methodref 10 28), (0, .nameAndType 5 29), (0, u "([CIILjava/lang/Void;)V"), (8, .fieldref 10 39), (0, .nameAndType 40 26), (0, u "COMPACT_STRINGS"), (1, .class_ 44), (1, u "java/lang/StringUTF16"), (0, u "compress"), (1, .methodref 42 48), (0, .nameAndType 49 50), (0, u "coderFromArrayLen"), (0, u "([BI)B"), (2, u "toBytes"), (53, .class_ 109), (1, u "java/lang/StringLatin1"), (67, .methodref 42 178), (0, .nameAndType 45 179), (0, u "([CII)[B"), (29, .methodref 10 210), (0, .nameAndType 5 211), (0, u "([BB)V"), (157, u "(C)Z"), (171, .methodref 107 542), (0, .nameAndType 543 544), (0, u "equals"), (0, u "([B[B)Z"), (28, u "(Ljava/lang/Object;)Z"), (1, .class_ 576), (0, u "java/lang/CharSequence"), (22, u "CASE_INSENSITIVE_ORDER"), (0, u "Ljava/util/Comparator;"), (181, u "valueOf"), (0, u "(C)Ljava/lang/String;"), (226, u "([C)V"), (4, .methodref 107 1016), (0, .nameAndType 1017 369), (0, u "canEncode"), (0, .methodref 107 1019), (0, .nameAndType 53 1020), (0, u "(C)[B"), (80, u "serialPersistentFields"), (0, u "[Ljava/io/ObjectStreamField;"), (0, .class_ 1104), (0, u "java/lang/String$CaseInsensitiveComparator"), (1, .class_ 1107), (0, u "java/io/Serializable"), (0, .class_ 1109), (0, u "java/lang/Comparable"), (0, .class_ 1111), (0, u "java/lang/constant/Constable"), (0, .class_ 1113), (0, u "java/lang/constant/ConstantDesc"), (2, u "serialVersionUID"), (0, u "J"), (3, u "REPL"), (0, u "C"), (2, u "LATIN1"), (1, u "UTF16")] 323

def k8m0 : Method := { name := "<init>", desc := "()V", sig := { parameters := [], returnType := none }, accessFlags := 1, code := none }
def k8c1 : Code := { maxStack := 5, maxLocals := 2, code := jdk_42_method_3_code, exceptionTable := #[], attributes := #[] }
def k8m1 : Method := { name := "<init>", desc := "([C)V", sig := { parameters := [(.array .char)], returnType := none }, accessFlags := 1, code := some k8c1 }
def k8c2 : Code := { maxStack := 2, maxLocals := 3, code := jdk_42_method_66_code, exceptionTable := #[], attributes := #[] }
def k8m2 : Method := { name := "equals", desc := "(Ljava/lang/Object;)Z", sig := { parameters := [(.object "java/lang/Object")], returnType := some .boolean }, accessFlags := 1, code := some k8c2 }
def k8c3 : Code := { maxStack := 4, maxLocals := 1, code := jdk_42_method_139_code, exceptionTable := #[], attributes := #[] }
def k8m3 : Method := { name := "valueOf", desc := "(C)Ljava/lang/String;", sig := { parameters := [.char], returnType := some (.object "java/lang/String") }, accessFlags := 9, code := some k8c3 }
def k8c4 : Code := { maxStack := 4, maxLocals := 6, code := jdk_42_method_149_code, exceptionTable := #[], attributes := #[] }
def k8m4 : Method := { name := "<init>", desc := "([CIILjava/lang/Void;)V", sig := { parameters := [(.array .char), .int, .int, (.object "java/lang/Void")], returnType := none }, accessFlags := 2, code := some k8c4 }
def k8c5 : Code := { maxStack := 2, maxLocals := 3, code := jdk_42_method_151_code, exceptionTable := #[], attributes := #[] }
def k8m5 : Method := { name := "<init>", desc := "([BB)V", sig := { parameters := [(.array .byte), .byte], returnType := none }, accessFlags := 0, code := some k8c5 }
/-- java/lang/String -/
def k8 : Class := { plain "java/lang/String" (some 0) with
  accessFlags := 49
  interfaces := #[3, 4, 5, 6, 7]
  cf := some (fileOf pool8 10 #[.nestMembers #[1103]] #[{ accessFlags := 1, nameIndex := 5, descriptorIndex := 6, attributes := #[] }, { accessFlags := 1, nameIndex := 5, descriptorIndex := 1010, attributes := #[] }, { accessFlags := 1, nameIndex := 543, descriptorIndex := 573, attributes := #[] }, { accessFlags := 9, nameIndex := 782, descriptorIndex := 783, attributes := #[] }, { accessFlags := 2, nameIndex := 5, descriptorIndex := 29, attributes := #[] }, { accessFlags := 0, nameIndex := 5, descriptorIndex := 211, attributes := #[] }] 49 2 #[1106, 1108, 575, 1110, 1112] #[{ accessFlags := 18, nameIndex := 13, descriptorIndex := 14, attributes := #[] }, { accessFlags := 18, nameIndex := 17, descriptorIndex := 18, attributes := #[] }, { accessFlags := 2, nameIndex := 21, descriptorIndex := 22, attributes := #[] }, { accessFlags := 2, nameIndex := 25, descriptorIndex := 26, attributes := #[] }, { accessFlags := 26, nameIndex := 1116, descriptorIndex := 1117, attributes := #[] }, { accessFlags := 24, nameIndex := 40, descriptorIndex := 26, attributes := #[] }, { accessFlags := 26, nameIndex := 1101, descriptorIndex := 1102, attributes := #[] }, { accessFlags := 26, nameIndex := 1121, descriptorIndex := 1122, attributes := #[] }, { accessFlags := 25, nameIndex := 599, descriptorIndex := 600, attributes := #[] }, { accessFlags := 24, nameIndex := 1125, descriptorIndex := 18, attributes := #[] }, { accessFlags := 24, nameIndex := 1127, descriptorIndex := 18, attributes := #[] }])
  fields := #[{ name := "value", type := (.array .byte), accessFlags := 18, slot := 0, constantValue := 0 }, { name := "coder", type := .byte, accessFlags := 18, slot := 1, constantValue := 0 }, { name := "hash", type := .int, accessFlags := 2, slot := 2, constantValue := 0 }, { name := "hashIsZero", type := .boolean, accessFlags := 2, slot := 3, constantValue := 0 }, { name := "serialVersionUID", type := .long, accessFlags := 26, slot := 0, constantValue := 0 }, { name := "COMPACT_STRINGS", type := .boolean, accessFlags := 24, slot := 1, constantValue := 0 }, { name := "serialPersistentFields", type := (.array (.object "java/io/ObjectStreamField")), accessFlags := 26, slot := 2, constantValue := 0 }, { name := "REPL", type := .char, accessFlags := 26, slot := 3, constantValue := 0 }, { name := "CASE_INSENSITIVE_ORDER", type := (.object "java/util/Comparator"), accessFlags := 25, slot := 4, constantValue := 0 }, { name := "LATIN1", type := .byte, accessFlags := 24, slot := 5, constantValue := 0 }, { name := "UTF16", type := .byte, accessFlags := 24, slot := 6, constantValue := 0 }]
  methods := #[k8m0, k8m1, k8m2, k8m3, k8m4, k8m5]
  instanceTypes := #[(.array .byte), .byte, .int, .boolean]
  staticTypes := #[.long, .boolean, (.array (.object "java/io/ObjectStreamField")), .char, (.object "java/util/Comparator"), .byte, .byte]
  resolved := Array.replicate 1451 none
  statics := some 0 }

def pool9 : Array CpInfo := pool [(6, .class_ 8), (1, u "java/lang/Object"), (0, u "<init>"), (0, u "()V"), (1, .class_ 14), (1, u "java/lang/StringUTF16"), (31, u "$assertionsDisabled"), (0, u "Z"), (13, u "HI_BYTE_SHIFT"), (0, u "I"), (2, u "LO_BYTE_SHIFT"), (49, .methodref 12 116), (0, .nameAndType 117 118), (0, u "compress"), (0, u "([CI[BII)I"), (3, u "([CII)[B"), (138, u "coderFromArrayLen"), (0, u "([BI)B"), (106, .class_ 371), (1, u "java/lang/StringUTF16$LinesSpliterator"), (58, u "MAX_LENGTH"), (196, .class_ 628), (0, u "java/lang/StringUTF16$CodePointsSpliterator"), (0, .class_ 630), (0, u "java/lang/StringUTF16$CharsSpliterator")] 4

def k9m0 : Method := { name := "<init>", desc := "()V", sig := { parameters := [], returnType := none }, accessFlags := 0, code := none }
def k9c1 : Code := { maxStack := 2, maxLocals := 2, code := jdk_52_method_15_code, exceptionTable := #[], attributes := #[] }
def k9m1 : Method := { name := "coderFromArrayLen", desc := "([BI)B", sig := { parameters := [(.array .byte), .int], returnType := some .byte }, accessFlags := 8, code := some k9c1 }
def k9c2 : Code := { maxStack := 5, maxLocals := 6, code := jdk_52_method_16_code, exceptionTable := #[], attributes := #[] }
def k9m2 : Method := { name := "compress", desc := "([CII)[B", sig := { parameters := [(.array .char), .int, .int], returnType := some (.array .byte) }, accessFlags := 9, code := some k9c2 }
def k9c3 : Code := { maxStack := 3, maxLocals := 7, code := jdk_52_method_21_code, exceptionTable := #[], attributes := #[] }
def k9m3 : Method := { name := "compress", desc := "([CI[BII)I", sig := { parameters := [(.array .char), .int, (.array .byte), .int, .int], returnType := some .int }, accessFlags := 9, code := some k9c3 }
/-- java/lang/StringUTF16 -/
def k9 : Class := { plain "java/lang/StringUTF16" (some 0) with
  accessFlags := 48
  interfaces := #[]
  cf := some (fileOf pool9 12 #[.nestMembers #[627, 629, 369]] #[{ accessFlags := 0, nameIndex := 9, descriptorIndex := 10, attributes := #[] }, { accessFlags := 8, nameIndex := 261, descriptorIndex := 262, attributes := #[] }, { accessFlags := 9, nameIndex := 117, descriptorIndex := 122, attributes := #[] }, { accessFlags := 9, nameIndex := 117, descriptorIndex := 118, attributes := #[] }] 48 6 #[] #[{ accessFlags := 26, nameIndex := 61, descriptorIndex := 62, attributes := #[] }, { accessFlags := 26, nameIndex := 65, descriptorIndex := 62, attributes := #[] }, { accessFlags := 24, nameIndex := 430, descriptorIndex := 62, attributes := #[] }, { accessFlags := 4120, nameIndex := 46, descriptorIndex := 47, attributes := #[] }])
  fields := #[{ name := "HI_BYTE_SHIFT", type := .int, accessFlags := 26, slot := 0, constantValue := 0 }, { name := "LO_BYTE_SHIFT", type := .int, accessFlags := 26, slot := 1, constantValue := 0 }, { name := "MAX_LENGTH", type := .int, accessFlags := 24, slot := 2, constantValue := 0 }, { name := "$assertionsDisabled", type := .boolean, accessFlags := 4120, slot := 3, constantValue := 0 }]
  methods := #[k9m0, k9m1, k9m2, k9m3]
  instanceTypes := #[]
  staticTypes := #[.int, .int, .int, .boolean]
  resolved := Array.replicate 635 none
  statics := none }

def pool10 : Array CpInfo := pool [(2, .class_ 4), (1, u "java/lang/Object"), (0, u "<init>"), (0, u "()V"), (35, .class_ 44), (1, u "java/util/Objects"), (0, u "requireNonNull"), (0, u "(Ljava/lang/Object;)Ljava/lang/Object;")] 137

def k10m0 : Method := { name := "<init>", desc := "()V", sig := { parameters := [], returnType := none }, accessFlags := 2, code := none }
def k10c1 : Code := { maxStack := 2, maxLocals := 1, code := jdk_31_method_10_code, exceptionTable := #[], attributes := #[] }
def k10m1 : Method := { name := "requireNonNull", desc := "(Ljava/lang/Object;)Ljava/lang/Object;", sig := { parameters := [(.object "java/lang/Object")], returnType := some (.object "java/lang/Object") }, accessFlags := 9, code := some k10c1 }
/-- java/util/Objects -/
def k10 : Class := { plain "java/util/Objects" (some 0) with
  accessFlags := 49
  interfaces := #[]
  cf := some (fileOf pool10 42 #[] #[{ accessFlags := 2, nameIndex := 5, descriptorIndex := 6, attributes := #[] }, { accessFlags := 9, nameIndex := 45, descriptorIndex := 46, attributes := #[] }] 49 2 #[] #[])
  fields := #[]
  methods := #[k10m0, k10m1]
  instanceTypes := #[]
  staticTypes := #[]
  resolved := Array.replicate 184 none
  statics := none }

def pool11 : Array CpInfo := pool [(4, .class_ 6), (1, u "java/lang/Object"), (0, u "<init>"), (0, u "()V"), (5, .class_ 16), (1, u "java/lang/StringLatin1"), (73, u "canEncode"), (14, u "(C)Z"), (15, u "$assertionsDisabled"), (0, u "Z"), (98, .class_ 223), (1, u "java/lang/StringLatin1$LinesSpliterator"), (57, u "equals"), (0, u "([B[B)Z"), (97, u "toBytes"), (1, u "(C)[B"), (7, .class_ 391), (0, u "java/lang/StringLatin1$CharsSpliterator")] 3

def k11m0 : Method := { name := "<init>", desc := "()V", sig := { parameters := [], returnType := none }, accessFlags := 0, code := none }
def k11c1 : Code := { maxStack := 2, maxLocals := 1, code := jdk_43_method_3_code, exceptionTable := #[], attributes := #[] }
def k11m1 : Method := { name := "canEncode", desc := "(C)Z", sig := { parameters := [.char], returnType := some .boolean }, accessFlags := 9, code := some k11c1 }
def k11c2 : Code := { maxStack := 3, maxLocals := 3, code := jdk_43_method_13_code, exceptionTable := #[], attributes := #[] }
def k11m2 : Method := { name := "equals", desc := "([B[B)Z", sig := { parameters := [(.array .byte), (.array .byte)], returnType := some .boolean }, accessFlags := 9, code := some k11c2 }
def k11c3 : Code := { maxStack := 4, maxLocals := 1, code := jdk_43_method_46_code, exceptionTable := #[], attributes := #[] }
def k11m3 : Method := { name := "toBytes", desc := "(C)[B", sig := { parameters := [.char], returnType := some (.array .byte) }, accessFlags := 9, code := some k11c3 }
/-- java/lang/StringLatin1 -/
def k11 : Class := { plain "java/lang/StringLatin1" (some 0) with
  accessFlags := 48
  interfaces := #[]
  cf := some (fileOf pool11 14 #[.nestMembers #[390, 221]] #[{ accessFlags := 0, nameIndex := 7, descriptorIndex := 8, attributes := #[] }, { accessFlags := 9, nameIndex := 90, descriptorIndex := 105, attributes := #[] }, { accessFlags := 9, nameIndex := 281, descriptorIndex := 282, attributes := #[] }, { accessFlags := 9, nameIndex := 380, descriptorIndex := 382, attributes := #[] }] 48 4 #[] #[{ accessFlags := 4120, nameIndex := 121, descriptorIndex := 122, attributes := #[] }])
  fields := #[{ name := "$assertionsDisabled", type := .boolean, accessFlags := 4120, slot := 0, constantValue := 0 }]
  methods := #[k11m0, k11m1, k11m2, k11m3]
  instanceTypes := #[]
  staticTypes := #[.boolean]
  resolved := Array.replicate 395 none
  statics := none }

def pool12 : Array CpInfo := pool [(2, .class_ 4), (1, u "java/lang/Object"), (0, u "<init>"), (0, u "()V"), (17, .class_ 26), (1, u "jdk/internal/util/Preconditions"), (28, .class_ 56), (0, u "jdk/internal/util/Preconditions$4"), (57, .class_ 115), (0, u "jdk/internal/util/Preconditions$1"), (7, u "SIOOBE_FORMATTER"), (0, u "Ljava/util/function/BiFunction;"), (0, .class_ 126), (0, u "jdk/internal/util/Preconditions$2"), (3, u "AIOOBE_FORMATTER"), (0, .class_ 132), (0, u "jdk/internal/util/Preconditions$3"), (3, u "IOOBE_FORMATTER")] 57

def k12m0 : Method := { name := "<init>", desc := "()V", sig := { parameters := [], returnType := none }, accessFlags := 1, code := none }
/-- jdk/internal/util/Preconditions -/
def k12 : Class := { plain "jdk/internal/util/Preconditions" (some 0) with
  accessFlags := 33
  interfaces := #[]
  cf := some (fileOf pool12 24 #[.nestMembers #[55, 131, 125, 114]] #[{ accessFlags := 1, nameIndex := 5, descriptorIndex := 6, attributes := #[] }] 33 2 #[] #[{ accessFlags := 25, nameIndex := 123, descriptorIndex := 124, attributes := #[] }, { accessFlags := 25, nameIndex := 130, descriptorIndex := 124, attributes := #[] }, { accessFlags := 25, nameIndex := 136, descriptorIndex := 124, attributes := #[] }])
  fields := #[{ name := "SIOOBE_FORMATTER", type := (.object "java/util/function/BiFunction"), accessFlags := 25, slot := 0, constantValue := 0 }, { name := "AIOOBE_FORMATTER", type := (.object "java/util/function/BiFunction"), accessFlags := 25, slot := 1, constantValue := 0 }, { name := "IOOBE_FORMATTER", type := (.object "java/util/function/BiFunction"), accessFlags := 25, slot := 2, constantValue := 0 }]
  methods := #[k12m0]
  instanceTypes := #[]
  staticTypes := #[(.object "java/util/function/BiFunction"), (.object "java/util/function/BiFunction"), (.object "java/util/function/BiFunction")]
  resolved := Array.replicate 194 none
  statics := some 1 }

def pool13 : Array CpInfo := pool [(9, u "<init>"), (6, .class_ 18), (1, u "java/lang/Object"), (0, u "()V"), (1, .class_ 23), (1, u "jdk/internal/util/ArraysSupport"), (0, u "LOG2_ARRAY_LONG_INDEX_SCALE"), (0, u "I"), (2, u "U"), (0, u "Ljdk/internal/misc/Unsafe;"), (8, u "BIG_ENDIAN"), (0, u "Z"), (8, u "LOG2_BYTE_BIT_SIZE"), (4, u "LOG2_ARRAY_INT_INDEX_SCALE"), (54, u "JLA"), (0, u "Ljdk/internal/access/JavaLangAccess;"), (11, u "LOG2_ARRAY_BOOLEAN_INDEX_SCALE"), (9, u "LOG2_ARRAY_BYTE_INDEX_SCALE"), (5, u "LOG2_ARRAY_CHAR_INDEX_SCALE"), (5, u "LOG2_ARRAY_SHORT_INDEX_SCALE"), (18, u "LOG2_ARRAY_FLOAT_INDEX_SCALE"), (24, u "LOG2_ARRAY_DOUBLE_INDEX_SCALE"), (89, u "T_BOOLEAN"), (2, u "T_CHAR"), (1, u "T_FLOAT"), (1, u "T_DOUBLE"), (1, u "T_BYTE"), (1, u "T_SHORT"), (1, u "T_INT"), (1, u "T_LONG"), (1, u "SOFT_MAX_ARRAY_LENGTH")] 83

def k13m0 : Method := { name := "<init>", desc := "()V", sig := { parameters := [], returnType := none }, accessFlags := 2, code := none }
/-- jdk/internal/util/ArraysSupport -/
def k13 : Class := { plain "jdk/internal/util/ArraysSupport" (some 0) with
  accessFlags := 33
  interfaces := #[]
  cf := some (fileOf pool13 21 #[] #[{ accessFlags := 2, nameIndex := 9, descriptorIndex := 19, attributes := #[] }] 33 16 #[] #[{ accessFlags := 24, nameIndex := 28, descriptorIndex := 29, attributes := #[] }, { accessFlags := 26, nameIndex := 38, descriptorIndex := 39, attributes := #[] }, { accessFlags := 25, nameIndex := 121, descriptorIndex := 25, attributes := #[] }, { accessFlags := 25, nameIndex := 131, descriptorIndex := 25, attributes := #[] }, { accessFlags := 25, nameIndex := 137, descriptorIndex := 25, attributes := #[] }, { accessFlags := 25, nameIndex := 143, descriptorIndex := 25, attributes := #[] }, { accessFlags := 25, nameIndex := 53, descriptorIndex := 25, attributes := #[] }, { accessFlags := 25, nameIndex := 24, descriptorIndex := 25, attributes := #[] }, { accessFlags := 25, nameIndex := 162, descriptorIndex := 25, attributes := #[] }, { accessFlags := 25, nameIndex := 187, descriptorIndex := 25, attributes := #[] }, { accessFlags := 26, nameIndex := 48, descriptorIndex := 25, attributes := #[] }, { accessFlags := 25, nameIndex := 277, descriptorIndex := 25, attributes := #[] }, { accessFlags := 25, nameIndex := 280, descriptorIndex := 25, attributes := #[] }, { accessFlags := 25, nameIndex := 282, descriptorIndex := 25, attributes := #[] }, { accessFlags := 25, nameIndex := 284, descriptorIndex := 25, attributes := #[] }, { accessFlags := 25, nameIndex := 286, descriptorIndex := 25, attributes := #[] }, { accessFlags := 25, nameIndex := 288, descriptorIndex := 25, attributes := #[] }, { accessFlags := 25, nameIndex := 290, descriptorIndex := 25, attributes := #[] }, { accessFlags := 25, nameIndex := 292, descriptorIndex := 25, attributes := #[] }, { accessFlags := 26, nameIndex := 108, descriptorIndex := 109, attributes := #[] }, { accessFlags := 25, nameIndex := 294, descriptorIndex := 25, attributes := #[] }])
  fields := #[{ name := "U", type := (.object "jdk/internal/misc/Unsafe"), accessFlags := 24, slot := 0, constantValue := 0 }, { name := "BIG_ENDIAN", type := .boolean, accessFlags := 26, slot := 1, constantValue := 0 }, { name := "LOG2_ARRAY_BOOLEAN_INDEX_SCALE", type := .int, accessFlags := 25, slot := 2, constantValue := 0 }, { name := "LOG2_ARRAY_BYTE_INDEX_SCALE", type := .int, accessFlags := 25, slot := 3, constantValue := 0 }, { name := "LOG2_ARRAY_CHAR_INDEX_SCALE", type := .int, accessFlags := 25, slot := 4, constantValue := 0 }, { name := "LOG2_ARRAY_SHORT_INDEX_SCALE", type := .int, accessFlags := 25, slot := 5, constantValue := 0 }, { name := "LOG2_ARRAY_INT_INDEX_SCALE", type := .int, accessFlags := 25, slot := 6, constantValue := 0 }, { name := "LOG2_ARRAY_LONG_INDEX_SCALE", type := .int, accessFlags := 25, slot := 7, constantValue := 0 }, { name := "LOG2_ARRAY_FLOAT_INDEX_SCALE", type := .int, accessFlags := 25, slot := 8, constantValue := 0 }, { name := "LOG2_ARRAY_DOUBLE_INDEX_SCALE", type := .int, accessFlags := 25, slot := 9, constantValue := 0 }, { name := "LOG2_BYTE_BIT_SIZE", type := .int, accessFlags := 26, slot := 10, constantValue := 0 }, { name := "T_BOOLEAN", type := .int, accessFlags := 25, slot := 11, constantValue := 0 }, { name := "T_CHAR", type := .int, accessFlags := 25, slot := 12, constantValue := 0 }, { name := "T_FLOAT", type := .int, accessFlags := 25, slot := 13, constantValue := 0 }, { name := "T_DOUBLE", type := .int, accessFlags := 25, slot := 14, constantValue := 0 }, { name := "T_BYTE", type := .int, accessFlags := 25, slot := 15, constantValue := 0 }, { name := "T_SHORT", type := .int, accessFlags := 25, slot := 16, constantValue := 0 }, { name := "T_INT", type := .int, accessFlags := 25, slot := 17, constantValue := 0 }, { name := "T_LONG", type := .int, accessFlags := 25, slot := 18, constantValue := 0 }, { name := "JLA", type := (.object "jdk/internal/access/JavaLangAccess"), accessFlags := 26, slot := 19, constantValue := 0 }, { name := "SOFT_MAX_ARRAY_LENGTH", type := .int, accessFlags := 25, slot := 20, constantValue := 0 }]
  methods := #[k13m0]
  instanceTypes := #[]
  staticTypes := #[(.object "jdk/internal/misc/Unsafe"), .boolean, .int, .int, .int, .int, .int, .int, .int, .int, .int, .int, .int, .int, .int, .int, .int, .int, .int, (.object "jdk/internal/access/JavaLangAccess"), .int]
  resolved := Array.replicate 378 none
  statics := none }

def pool14 : Array CpInfo := pool [(1, u "java/lang/Cloneable"), (0, .class_ 1), (0, u "java/lang/Object"), (0, .class_ 3)] 3

/-- java/lang/Cloneable -/
def k14 : Class := { plain "java/lang/Cloneable" (some 0) with
  accessFlags := 1537
  interfaces := #[]
  cf := some (fileOf pool14 2 #[] #[] 1537 4 #[] #[])
  fields := #[]
  methods := #[]
  instanceTypes := #[]
  staticTypes := #[]
  resolved := Array.replicate 8 none
  statics := none }

/-- the primitive byte -/
def k15 : Class := { plain "byte" none with kind := .primitive 'B', accessFlags := 0x411 }
/-- [B -/
def k16 : Class := { plain "[B" (some 0) with kind := .array 15 .byte, interfaces := #[14, 3], accessFlags := 1041 }

/-- the primitive char -/
def k17 : Class := { plain "char" none with kind := .primitive 'C', accessFlags := 0x411 }
/-- [C -/
def k18 : Class := { plain "[C" (some 0) with kind := .array 17 .char, interfaces := #[14, 3], accessFlags := 1041 }

/-- the primitive int -/
def k19 : Class := { plain "int" none with kind := .primitive 'I', accessFlags := 0x411 }
/-- [I -/
def k20 : Class := { plain "[I" (some 0) with kind := .array 19 .int, interfaces := #[14, 3], accessFlags := 1041 }

def heap : Heap := #[{ cls := 8, slots := #[.long 0, .int 1, .null, .int 0, .null, .int 0, .int 0], vm := .statics 8 },
  { cls := 12, slots := #[.null, .null, .null], vm := .statics 12 }]
def classes : Array Class := #[k0, k1, k2, k3, k4, k5, k6, k7, k8, k9, k10, k11, k12, k13, k14, k15, k16, k17, k18, k19, k20]
def interned : List (Array UInt16 × Addr) := []
def slotsUsed : Nat := 10
def theMethod : MethodId := ⟨1, 1⟩
def args0 : Array Value := #[.int 5, .int 6, .int 70000]
def aboutOver (below : List Frame) : State where
  vm := { classes := classes, interned := interned.toArray }
  heap := heap
  slotsUsed := slotsUsed
  threads := #[{ frames := .invoking theMethod args0 :: below }]
def below0 : List Frame := [.native { method := ⟨0, 0⟩, args := #[] }]
def about1 : State := aboutOver below0
def p0 : Program := .bare "" "" ""
def e0 : Env := launch0.env 0 0 0
theorem w_frames : about1.frames = Frame.invoking theMethod args0 :: below0 := rfl
set_option maxRecDepth 65536 in
theorem w_args : argsFit about1.vm theMethod args0 = true := by decide +kernel
set_option maxRecDepth 65536 in
theorem w_heap : heapFits about1 = true := by decide +kernel
set_option maxRecDepth 65536 in
theorem w_runnable : about1.curStatus? = some .runnable := by decide +kernel
set_option maxRecDepth 65536 in
theorem w_alone : about1.alone = true := by decide +kernel
set_option maxRecDepth 65536 in
theorem w_named : about1.methodNamed? x = some theMethod := by decide +kernel
set_option maxRecDepth 65536 in
theorem w_hears : about1.hears theMethod below0 = true := by decide +kernel
set_option maxRecDepth 65536 in
theorem w_ripe : about1.ripe theMethod args0 below0 = true := by decide +kernel
theorem w_running : about1.status = .running := rfl
set_option maxRecDepth 65536 in
theorem w_room : about1.hasRoom e0.platform room_1 = true :=
  launch0.hasRoom_least _ room_1 (by decide +kernel) (by decide +kernel) (by decide +kernel) (by decide +kernel) (by decide +kernel) (by decide +kernel)
theorem allAtoms_all (ts : List Jvm.Cond) (a : Array Jvm.Value) (st : Jvm.State) : (allAtoms ts).before a st = ts.all (fun c => c.before a st) := by
  induction ts with
  | nil => rfl
  | cons c t ih =>
    show (Jvm.Cond.and c (allAtoms t)).before a st = _
    rw [Jvm.Cond.before_and, ih, List.all_cons]
def words1 : List Jvm.Cond := Jvm.Cond.code x code maxLocals ret :: tables_1
/-- a 'code' word, met by the world's own term for the bytes: nothing is compared byte by byte -/
theorem code_word {y : MethodName} {bytes : ByteArray} {mx : Nat} {rt : Option FieldType} {a : Array Value} {s : State} {m : MethodId} {meth : Method} {c : Code} (h1 : s.methodNamed? y = some m) (h2 : s.vm.method? m = some meth) (h3 : meth.code = some c) (h4 : c.code = bytes)
    (h5 : (c.maxLocals == mx && c.exceptionTable.isEmpty && decide (c.maxStack ≤ mostOperands) && decide (meth.sig.returnType = rt) && !meth.locks && decide (parseMethodDescriptor y.desc = some meth.sig)) = true) : (Jvm.Cond.code y bytes mx rt).before a s = true := by
  simp only [Bool.and_eq_true, beq_iff_eq, Bool.not_eq_true', decide_eq_true_eq] at h5
  obtain ⟨⟨⟨⟨⟨g1, g2⟩, g3⟩, g4⟩, g5⟩, g6⟩ := h5
  simp [Cond.before, Cond.holds, Cond.value, h1, h2, h3, h4, g1, g2, g3, g4, g5, g6]
def isCode : Jvm.Cond → Bool
  | .code _ _ _ _ => true
  | _ => false
theorem all_split {L : List Jvm.Cond} {P : Jvm.Cond → Bool} (h1 : L.all (fun c => isCode c || P c) = true) (h2 : ∀ c ∈ L.filter isCode, P c = true) : L.all P = true := by
  refine List.all_eq_true.mpr fun c hc => ?_
  have h := List.all_eq_true.mp h1 c hc
  rcases Bool.eq_false_or_eq_true (isCode c) with hi | hi
  · exact h2 c (List.mem_filter.mpr ⟨hc, hi⟩)
  · simpa [hi] using h
set_option maxRecDepth 65536 in
theorem w_c0 : (Jvm.Cond.code x code maxLocals ret).before args0 about1 = true := code_word (m := ⟨1, 1⟩) (meth := k1m1) (c := k1c1) (by decide +kernel) rfl rfl rfl (by decide +kernel)
set_option maxRecDepth 65536 in
theorem w_c1 : (Jvm.Cond.code ({ cls := "com/example/lockstitch/lockstitch/engine/tree/PropertyNameEqualsPinLaw", name := "mk", desc := "(ICC)Ljava/lang/String;" } : Jvm.MethodName) method_4_code (3 : Nat) (Option.some (Jvm.ClassFile.FieldType.object "java/lang/String"))).before args0 about1 = true := code_word (m := ⟨1, 3⟩) (meth := k1m3) (c := k1c3) (by decide +kernel) rfl rfl rfl (by decide +kernel)
set_option maxRecDepth 65536 in
theorem w_c2 : (Jvm.Cond.code ({ cls := "java/lang/String", name := "<init>", desc := "([C)V" } : Jvm.MethodName) jdk_42_method_3_code (2 : Nat) (Option.none : Option Jvm.ClassFile.FieldType)).before args0 about1 = true := code_word (m := ⟨8, 1⟩) (meth := k8m1) (c := k8c1) (by decide +kernel) rfl rfl rfl (by decide +kernel)
set_option maxRecDepth 65536 in
theorem w_c3 : (Jvm.Cond.code ({ cls := "java/lang/String", name := "<init>", desc := "([CIILjava/lang/Void;)V" } : Jvm.MethodName) jdk_42_method_149_code (6 : Nat) (Option.none : Option Jvm.ClassFile.FieldType)).before args0 about1 = true := code_word (m := ⟨8, 4⟩) (meth := k8m4) (c := k8c4) (by decide +kernel) rfl rfl rfl (by decide +kernel)
set_option maxRecDepth 65536 in
theorem w_c4 : (Jvm.Cond.code ({ cls := "java/lang/Object", name := "<init>", desc := "()V" } : Jvm.MethodName) object_method_1_code (1 : Nat) (Option.none : Option Jvm.ClassFile.FieldType)).before args0 about1 = true := code_word (m := ⟨0, 0⟩) (meth := k0m0) (c := k0c0) (by decide +kernel) rfl rfl rfl (by decide +kernel)
set_option maxRecDepth 65536 in
theorem w_c5 : (Jvm.Cond.code ({ cls := "java/lang/StringUTF16", name := "compress", desc := "([CII)[B" } : Jvm.MethodName) jdk_52_method_16_code (6 : Nat) (Option.some (Jvm.ClassFile.FieldType.array Jvm.ClassFile.FieldType.byte))).before args0 about1 = true := code_word (m := ⟨9, 2⟩) (meth := k9m2) (c := k9c2) (by decide +kernel) rfl rfl rfl (by decide +kernel)
set_option maxRecDepth 65536 in
theorem w_c6 : (Jvm.Cond.code ({ cls := "java/lang/StringUTF16", name := "compress", desc := "([CI[BII)I" } : Jvm.MethodName) jdk_52_method_21_code (7 : Nat) (Option.some Jvm.ClassFile.FieldType.int)).before args0 about1 = true := code_word (m := ⟨9, 3⟩) (meth := k9m3) (c := k9c3) (by decide +kernel) rfl rfl rfl (by decide +kernel)
set_option maxRecDepth 65536 in
theorem w_c7 : (Jvm.Cond.code ({ cls := "java/lang/StringUTF16", name := "coderFromArrayLen", desc := "([BI)B" } : Jvm.MethodName) jdk_52_method_15_code (2 : Nat) (Option.some Jvm.ClassFile.FieldType.byte)).before args0 about1 = true := code_word (m := ⟨9, 1⟩) (meth := k9m1) (c := k9c1) (by decide +kernel) rfl rfl rfl (by decide +kernel)
set_option maxRecDepth 65536 in
theorem w_c8 : (Jvm.Cond.code ({ cls := "com/example/lockstitch/lockstitch/engine/tree/PropertyName", name := "<init>", desc := "(Ljava/lang/String;Ljava/lang/String;)V" } : Jvm.MethodName) prog_22_method_1_code (3 : Nat) (Option.none : Option Jvm.ClassFile.FieldType)).before args0 about1 = true := code_word (m := ⟨2, 0⟩) (meth := k2m0) (c := k2c0) (by decide +kernel) rfl rfl rfl (by decide +kernel)
set_option maxRecDepth 65536 in
theorem w_c9 : (Jvm.Cond.code ({ cls := "java/util/Objects", name := "requireNonNull", desc := "(Ljava/lang/Object;)Ljava/lang/Object;" } : Jvm.MethodName) jdk_31_method_10_code (1 : Nat) (Option.some (Jvm.ClassFile.FieldType.object "java/lang/Object"))).before args0 about1 = true := code_word (m := ⟨10, 1⟩) (meth := k10m1) (c := k10c1) (by decide +kernel) rfl rfl rfl (by decide +kernel)
set_option maxRecDepth 65536 in
theorem w_c10 : (Jvm.Cond.code ({ cls := "com/example/lockstitch/lockstitch/engine/tree/PropertyName", name := "equals", desc := "(Ljava/lang/Object;)Z" } : Jvm.MethodName) prog_22_method_5_code (3 : Nat) (Option.some Jvm.ClassFile.FieldType.boolean)).before args0 about1 = true := code_word (m := ⟨2, 1⟩) (meth := k2m1) (c := k2c1) (by decide +kernel) rfl rfl rfl (by decide +kernel)
set_option maxRecDepth 65536 in
theorem w_c11 : (Jvm.Cond.code ({ cls := "java/lang/String", name := "equals", desc := "(Ljava/lang/Object;)Z" } : Jvm.MethodName) jdk_42_method_66_code (3 : Nat) (Option.some Jvm.ClassFile.FieldType.boolean)).before args0 about1 = true := code_word (m := ⟨8, 2⟩) (meth := k8m2) (c := k8c2) (by decide +kernel) rfl rfl rfl (by decide +kernel)
set_option maxRecDepth 65536 in
theorem w_c12 : (Jvm.Cond.code ({ cls := "java/lang/StringLatin1", name := "equals", desc := "([B[B)Z" } : Jvm.MethodName) jdk_43_method_13_code (3 : Nat) (Option.some Jvm.ClassFile.FieldType.boolean)).before args0 about1 = true := code_word (m := ⟨11, 2⟩) (meth := k11m2) (c := k11c2) (by decide +kernel) rfl rfl rfl (by decide +kernel)
set_option maxRecDepth 65536 in
theorem w_c13 : (Jvm.Cond.code ({ cls := "com/example/lockstitch/lockstitch/engine/tree/PropertyNameEqualsPinLaw", name := "same", desc := "(ICCICC)Z" } : Jvm.MethodName) method_3_code (6 : Nat) (Option.some Jvm.ClassFile.FieldType.boolean)).before args0 about1 = true := code_word (m := ⟨1, 2⟩) (meth := k1m2) (c := k1c2) (by decide +kernel) rfl rfl rfl (by decide +kernel)
set_option maxRecDepth 65536 in
theorem w_c14 : (Jvm.Cond.code ({ cls := "java/lang/String", name := "valueOf", desc := "(C)Ljava/lang/String;" } : Jvm.MethodName) jdk_42_method_139_code (1 : Nat) (Option.some (Jvm.ClassFile.FieldType.object "java/lang/String"))).before args0 about1 = true := code_word (m := ⟨8, 3⟩) (meth := k8m3) (c := k8c3) (by decide +kernel) rfl rfl rfl (by decide +kernel)
set_option maxRecDepth 65536 in
theorem w_c15 : (Jvm.Cond.code ({ cls := "java/lang/StringLatin1", name := "canEncode", desc := "(C)Z" } : Jvm.MethodName) jdk_43_method_3_code (1 : Nat) (Option.some Jvm.ClassFile.FieldType.boolean)).before args0 about1 = true := code_word (m := ⟨11, 1⟩) (meth := k11m1) (c := k11c1) (by decide +kernel) rfl rfl rfl (by decide +kernel)
set_option maxRecDepth 65536 in
theorem w_c16 : (Jvm.Cond.code ({ cls := "java/lang/StringLatin1", name := "toBytes", desc := "(C)[B" } : Jvm.MethodName) jdk_43_method_46_code (1 : Nat) (Option.some (Jvm.ClassFile.FieldType.array Jvm.ClassFile.FieldType.byte))).before args0 about1 = true := code_word (m := ⟨11, 3⟩) (meth := k11m3) (c := k11c3) (by decide +kernel) rfl rfl rfl (by decide +kernel)
set_option maxRecDepth 65536 in
theorem w_c17 : (Jvm.Cond.code ({ cls := "java/lang/String", name := "<init>", desc := "([BB)V" } : Jvm.MethodName) jdk_42_method_151_code (3 : Nat) (Option.none : Option Jvm.ClassFile.FieldType)).before args0 about1 = true := code_word (m := ⟨8, 5⟩) (meth := k8m5) (c := k8c5) (by decide +kernel) rfl rfl rfl (by decide +kernel)
def codes1 : List Jvm.Cond := [Jvm.Cond.code x code maxLocals ret, Jvm.Cond.code ({ cls := "com/example/lockstitch/lockstitch/engine/tree/PropertyNameEqualsPinLaw", name := "mk", desc := "(ICC)Ljava/lang/String;" } : Jvm.MethodName) method_4_code (3 : Nat) (Option.some (Jvm.ClassFile.FieldType.object "java/lang/String")), Jvm.Cond.code ({ cls := "java/lang/String", name := "<init>", desc := "([C)V" } : Jvm.MethodName) jdk_42_method_3_code (2 : Nat) (Option.none : Option Jvm.ClassFile.FieldType), Jvm.Cond.code ({ cls := "java/lang/String", name := "<init>", desc := "([CIILjava/lang/Void;)V" } : Jvm.MethodName) jdk_42_method_149_code (6 : Nat) (Option.none : Option Jvm.ClassFile.FieldType), Jvm.Cond.code ({ cls := "java/lang/Object", name := "<init>", desc := "()V" } : Jvm.MethodName) object_method_1_code (1 : Nat) (Option.none : Option Jvm.ClassFile.FieldType), Jvm.Cond.code ({ cls := "java/lang/StringUTF16", name := "compress", desc := "([CII)[B" } : Jvm.MethodName) jdk_52_method_16_code (6 : Nat) (Option.some (Jvm.ClassFile.FieldType.array Jvm.ClassFile.FieldType.byte)), Jvm.Cond.code ({ cls := "java/lang/StringUTF16", name := "compress", desc := "([CI[BII)I" } : Jvm.MethodName) jdk_52_method_21_code (7 : Nat) (Option.some Jvm.ClassFile.FieldType.int), Jvm.Cond.code ({ cls := "java/lang/StringUTF16", name := "coderFromArrayLen", desc := "([BI)B" } : Jvm.MethodName) jdk_52_method_15_code (2 : Nat) (Option.some Jvm.ClassFile.FieldType.byte), Jvm.Cond.code ({ cls := "com/example/lockstitch/lockstitch/engine/tree/PropertyName", name := "<init>", desc := "(Ljava/lang/String;Ljava/lang/String;)V" } : Jvm.MethodName) prog_22_method_1_code (3 : Nat) (Option.none : Option Jvm.ClassFile.FieldType), Jvm.Cond.code ({ cls := "java/util/Objects", name := "requireNonNull", desc := "(Ljava/lang/Object;)Ljava/lang/Object;" } : Jvm.MethodName) jdk_31_method_10_code (1 : Nat) (Option.some (Jvm.ClassFile.FieldType.object "java/lang/Object")), Jvm.Cond.code ({ cls := "com/example/lockstitch/lockstitch/engine/tree/PropertyName", name := "equals", desc := "(Ljava/lang/Object;)Z" } : Jvm.MethodName) prog_22_method_5_code (3 : Nat) (Option.some Jvm.ClassFile.FieldType.boolean), Jvm.Cond.code ({ cls := "java/lang/String", name := "equals", desc := "(Ljava/lang/Object;)Z" } : Jvm.MethodName) jdk_42_method_66_code (3 : Nat) (Option.some Jvm.ClassFile.FieldType.boolean), Jvm.Cond.code ({ cls := "java/lang/StringLatin1", name := "equals", desc := "([B[B)Z" } : Jvm.MethodName) jdk_43_method_13_code (3 : Nat) (Option.some Jvm.ClassFile.FieldType.boolean), Jvm.Cond.code ({ cls := "com/example/lockstitch/lockstitch/engine/tree/PropertyNameEqualsPinLaw", name := "same", desc := "(ICCICC)Z" } : Jvm.MethodName) method_3_code (6 : Nat) (Option.some Jvm.ClassFile.FieldType.boolean), Jvm.Cond.code ({ cls := "java/lang/String", name := "valueOf", desc := "(C)Ljava/lang/String;" } : Jvm.MethodName) jdk_42_method_139_code (1 : Nat) (Option.some (Jvm.ClassFile.FieldType.object "java/lang/String")), Jvm.Cond.code ({ cls := "java/lang/StringLatin1", name := "canEncode", desc := "(C)Z" } : Jvm.MethodName) jdk_43_method_3_code (1 : Nat) (Option.some Jvm.ClassFile.FieldType.boolean), Jvm.Cond.code ({ cls := "java/lang/StringLatin1", name := "toBytes", desc := "(C)[B" } : Jvm.MethodName) jdk_43_method_46_code (1 : Nat) (Option.some (Jvm.ClassFile.FieldType.array Jvm.ClassFile.FieldType.byte)), Jvm.Cond.code ({ cls := "java/lang/String", name := "<init>", desc := "([BB)V" } : Jvm.MethodName) jdk_42_method_151_code (3 : Nat) (Option.none : Option Jvm.ClassFile.FieldType)]
set_option maxRecDepth 65536 in
theorem codes_eq : words1.filter isCode = codes1 := rfl
theorem w_codes : ∀ c ∈ words1.filter isCode, c.before args0 about1 = true := by
  rw [codes_eq]
  intro c hc
  simp only [codes1, List.mem_cons, List.not_mem_nil, or_false] at hc
  rcases hc with rfl | rfl | rfl | rfl | rfl | rfl | rfl | rfl | rfl | rfl | rfl | rfl | rfl | rfl | rfl | rfl | rfl | rfl
  · exact w_c0
  · exact w_c1
  · exact w_c2
  · exact w_c3
  · exact w_c4
  · exact w_c5
  · exact w_c6
  · exact w_c7
  · exact w_c8
  · exact w_c9
  · exact w_c10
  · exact w_c11
  · exact w_c12
  · exact w_c13
  · exact w_c14
  · exact w_c15
  · exact w_c16
  · exact w_c17
set_option maxRecDepth 65536 in
theorem w_t1 : (words1.take 24).all (fun c => isCode c || c.before args0 about1) = true := by decide +kernel
set_option maxRecDepth 65536 in
theorem w_t2 : ((words1.drop 24).take 24).all (fun c => isCode c || c.before args0 about1) = true := by decide +kernel
set_option maxRecDepth 65536 in
theorem w_t3 : (((words1.drop 24).drop 24).take 24).all (fun c => isCode c || c.before args0 about1) = true := by decide +kernel
set_option maxRecDepth 65536 in
theorem w_t4 : (((words1.drop 24).drop 24).drop 24).all (fun c => isCode c || c.before args0 about1) = true := by decide +kernel
theorem w_tables : (allAtoms (Jvm.Cond.code x code maxLocals ret :: tables_1)).before args0 about1 = true := by
  rw [allAtoms_all]
  show words1.all (fun c => c.before args0 about1) = true
  refine all_split ?_ w_codes
  rw [← List.take_append_drop 24 words1, List.all_append, w_t1, ← List.take_append_drop 24 (words1.drop 24), List.all_append, w_t2, ← List.take_append_drop 24 ((words1.drop 24).drop 24), List.all_append, w_t3, w_t4]
  rfl
set_option maxRecDepth 65536 in
theorem w_rest : rest_1_c.before args0 about1 = true := by decide +kernel
set_option maxRecDepth 65536 in
theorem w_case : (Jvm.Cond.and given_1 narrow_1).before args0 about1 = true := by decide +kernel
set_option maxRecDepth 65536 in
theorem w_consts : constsHeld consts_1 about1 := Jvm.Lit.constsHeldB_iff.mp (by decide +kernel)
theorem w_applies : (headSpec (Jvm.Cond.code x code maxLocals ret :: tables_1) room_1).applies x e0.platform about1 = true :=
  (Spec.applies_iff w_frames).mpr ⟨w_running, w_runnable, w_alone, w_named, w_hears, w_ripe, w_room, w_tables⟩
theorem atStart : AtStart classFile x code maxLocals ret World_1 tables_1 room_1 Calls_1 rest_1 Pre_1 launch0 p0 e0 about1 theMethod args0 below0 :=
  ⟨lists_1, trivial, launch0.admits_env _ _ _, launch0.least_env, fairChoices_fair.cas, fairChoices_fair.clock, w_frames, w_args, w_heap, w_applies, ⟨w_consts, trivial⟩, w_rest, w_case⟩
end start1
theorem witness_1 : WitnessClaimed_1 := ⟨start1.p0, start1.e0, start1.about1, start1.theMethod, start1.args0, start1.below0, start1.atStart⟩
end Jvm.Pilot.@@N@@
