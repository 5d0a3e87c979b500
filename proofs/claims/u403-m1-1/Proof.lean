import JvmDerived
import JvmDerived.Pilot.@@N@@Statement
import JvmDerived.Pilot.@@N@@Code
set_option linter.unusedVariables false
set_option linter.unusedSimpArgs false
/- laws to paste: Road.backV, Road.eqW, Road.codOf (cut by pick.py; bodies as the Statement names them) -/
namespace Jvm.Pilot.@@N@@
namespace StrChars
open Jvm Sem ClassFile Op Lib Jvm.Stand Jvm.Free.XT Jvm.Free.ALB Jvm.Free.JM Jvm.Free
open Jvm.Lib.Cold (StaticIs)
/-- a char array whose places are chars -/
def Ch (a : Addr) (A : Cell) (U : State) : Prop := Arr .char a A U ∧ Typed .char A
theorem Ch.mv {a : Addr} {A : Cell} {U U' : State} (h : Ch a A U) (hal : U.vm.Alike U'.vm) (hh : U'.heap = U.heap) : Ch a A U' := ⟨h.1.mv hal hh, h.2⟩
theorem Ch.keep {a : Addr} {A : Cell} {U U' : State} (h : Ch a A U) (hal : U.vm.Alike U'.vm) (hk : U'.heap[a]? = some A) : Ch a A U' := ⟨h.1.keep hal hk, h.2⟩
/-- what place i of a char[]'s cell holds -/
def cv (A : Cell) (i : Nat) : Int32 := match A.slots[i]? with | some (.int x) => x | _ => 0
theorem Ch.get {a : Addr} {A : Cell} {U : State} (h : Ch a A U) {i : Nat} (hi : i < A.slots.size) : A.slots[i]? = some (.int (cv A i)) := by
  have e := Array.getElem?_eq_getElem hi
  have f := h.2 i _ e
  unfold cv; rw [e]
  generalize A.slots[i] = v at f
  cases v <;> simp [fits] at f ⊢
/-- the byte that i2b leaves of a char -/
def lo8 (x : Int32) : Int32 := x.toInt8.toInt32
theorem fits_lo8 (y : Int32) : fits .byte (.int (lo8 y)) = true := by
  have h1 := y.toInt8.le_toInt
  have h2 := y.toInt8.toInt_lt
  simp only [lo8, fits, Bool.and_eq_true, decide_eq_true_eq, Int32.le_iff_toInt_le, Int8.toInt_toInt32, show (-128 : Int32).toInt = -128 from by decide, show (127 : Int32).toInt = 127 from by decide]
  omega
/-- A' is A but that each place j of lo .. hi - 1 holds f j -/
def Laid (A A' : Cell) (lo hi : Nat) (f : Nat → Value) : Prop := A'.cls = A.cls ∧ A'.vm = A.vm ∧ A'.slots.size = A.slots.size ∧ ∀ i, A'.slots[i]? = if lo ≤ i ∧ i < hi then some (f i) else A.slots[i]?
theorem Laid.zero (A : Cell) (lo : Nat) (f : Nat → Value) : Laid A A lo (lo + 0) f := ⟨rfl, rfl, rfl, fun i => by rw [if_neg (by omega)]⟩
theorem Laid.step {A Ak : Cell} {lo k : Nat} {f : Nat → Value} {v : Value} (h : Laid A Ak lo k f) (hlo : lo ≤ k) (hk : k < Ak.slots.size) (hv : v = f k) : Laid A (Ak.setSlot k v) lo (k + 1) f := by
  refine ⟨h.1, h.2.1, by simpa [Cell.setSlot] using h.2.2.1, fun i => ?_⟩
  by_cases e : k = i
  · subst e; rw [Cell.slots_setSlot_self v hk, if_pos (by omega), hv]
  · rw [Cell.slots_setSlot_ne v e, h.2.2.2 i]
    by_cases q : lo ≤ i ∧ i < k
    · rw [if_pos q, if_pos (by omega)]
    · rw [if_neg q, if_neg (by omega)]
def U16 : String := "java/lang/StringUTF16"
namespace Cmp5
def yN : MethodName := ⟨"java/lang/StringUTF16", "compress", "([CI[BII)I"⟩
abbrev yB : ByteArray := jdk_52_method_21_code
theorem d0 : decode yB 0 = .ok (.iconst 0, 1) := by decide +kernel
theorem d1 : decode yB 1 = .ok (.istore 5, 2) := by decide +kernel
theorem d3 : decode yB 3 = .ok (.iload 5, 2) := by decide +kernel
theorem d5 : decode yB 5 = .ok (.iload 4, 2) := by decide +kernel
theorem d7 : decode yB 7 = .ok (.if_icmp (.ge) 37, 3) := by decide +kernel
theorem d10 : decode yB 10 = .ok (.aload_n 0, 1) := by decide +kernel
theorem d11 : decode yB 11 = .ok (.iload_n 1, 1) := by decide +kernel
theorem d12 : decode yB 12 = .ok (.caload, 1) := by decide +kernel
theorem d13 : decode yB 13 = .ok (.istore 6, 2) := by decide +kernel
theorem d15 : decode yB 15 = .ok (.iload 6, 2) := by decide +kernel
theorem d17 : decode yB 17 = .ok (.sipush 255, 3) := by decide +kernel
theorem d20 : decode yB 20 = .ok (.if_icmp (.le) 6, 3) := by decide +kernel
theorem d26 : decode yB 26 = .ok (.aload_n 2, 1) := by decide +kernel
theorem d27 : decode yB 27 = .ok (.iload_n 3, 1) := by decide +kernel
theorem d28 : decode yB 28 = .ok (.iload 6, 2) := by decide +kernel
theorem d30 : decode yB 30 = .ok (.i2b, 1) := by decide +kernel
theorem d31 : decode yB 31 = .ok (.bastore, 1) := by decide +kernel
theorem d32 : decode yB 32 = .ok (.iinc 1 1, 3) := by decide +kernel
theorem d35 : decode yB 35 = .ok (.iinc 3 1, 3) := by decide +kernel
theorem d38 : decode yB 38 = .ok (.iinc 5 1, 3) := by decide +kernel
theorem d41 : decode yB 41 = .ok (.goto (-38), 3) := by decide +kernel
theorem d44 : decode yB 44 = .ok (.iload 4, 2) := by decide +kernel
theorem d46 : decode yB 46 = .ok (.ireturn, 1) := by decide +kernel
def site : List Cond := []
def tab : Cond := tabOf yN yB 7 (some .int) site
def P (b : Addr) (A : Cell) (d : Addr) (B : Cell) (o q len : Nat) (args : Array Value) (s : State) : Prop := args = #[.ref b, .int (Int32.ofNat o), .ref d, .int (Int32.ofNat q), .int (Int32.ofNat len)] ∧ Ch b A s ∧ Arr .byte d B s ∧ b ≠ d ∧ o + len ≤ A.slots.size ∧ q + len ≤ B.slots.size ∧ ∀ i, i < len → ¬ 255 < cv A (o + i)
def E (b : Addr) (A : Cell) (d : Addr) (B : Cell) (o q len : Nat) (r : Option Value) (s u : State) : Prop := r = some (.int (Int32.ofNat len)) ∧ ∃ B', Put d B' s u ∧ Laid B B' q (q + len) (fun j => Value.int (lo8 (cv A (o + (j - q)))))
/-- no char of the range above 255: len; the places written hold each char's low byte -/
theorem law (l : Launch) (b : Addr) (A : Cell) (d : Addr) (B : Cell) (o q len : Nat) : Law l yN 5 5 0 0 yB 7 (some .int) site (P b A d B o q len) (E b A d B o q len) (copyLocs d q len) 0 0 := by
  refine Law.of_walk (plainFor_of_name (by decide +kernel)) (by decide +kernel) (by decide +kernel) (by decide) (fun _ _ h => by rw [h.1]; rfl) (fun _ U U' hal hh h => ⟨h.1, h.2.1.mv hal hh, h.2.2.1.mv hal hh, h.2.2.2⟩) (fun r U U' V V' h1 hal h2 h => ⟨h.1, h.2.elim fun B' q => ⟨B', q.1.mv h1 h2, q.2⟩⟩) ?_
  intro p e s m args below meth c s₁ X0 hexec hbytes hml hret hlk hnm hown hh0 W hP
  obtain ⟨rfl, hA, hB, hne, l1, l2, hp⟩ := hP
  have c1 : Steps p.tables e below (s₁.setTop (entryFrame m #[.ref b, .int (Int32.ofNat o), .ref d, .int (Int32.ofNat q), .int (Int32.ofNat len)] 7)) (s₁.setTop (mkF m 0 #[.val (.ref b), .val (.int (Int32.ofNat o)), .val (.ref d), .val (.int (Int32.ofNat q)), .val (.int (Int32.ofNat len)), .unset, .unset] [])) := entry rfl
  have hA0 := hA.1.mv X0.warmed.alike hh0
  have hB0 := hB.mv X0.warmed.alike hh0
  have a31 := hA.1.2.2.2
  have c2 : Steps p.tables e below (s₁.setTop (entryFrame m #[.ref b, .int (Int32.ofNat o), .ref d, .int (Int32.ofNat q), .int (Int32.ofNat len)] 7)) (s₁.setTop (mkF m 3 #[.val (.ref b), .val (.int (Int32.ofNat o)), .val (.ref d), .val (.int (Int32.ofNat q)), .val (.int (Int32.ofNat len)), .val (.int 0), .unset] [])) := c1.trans (by
    refine iconstV X0.here hexec rfl 0 (hb hbytes d0) (by decide) ?_
    refine XS.istore X0.here hexec rfl (hb hbytes d1) rfl rfl ?_
    exact Steps.refl _)
  have loop : ∀ (r i : Nat), i + r = len → ∀ (z : Slot), (z = .unset ∨ ∃ w, z = .val w ∧ w.category = 1) → ∀ (Tl : State) (Bk : Cell), Stand p l e { frames := 0, locals := 0, cells := 0, slots := 0 } s m #[.ref b, .int (Int32.ofNat o), .ref d, .int (Int32.ofNat q), .int (Int32.ofNat len)] below meth c Tl ([] ++ copyLocs d q i) 0 0 → Put d Bk s₁ Tl → Laid B Bk q (q + i) (fun j => Value.int (lo8 (cv A (o + (j - q))))) →
      Steps p.tables e below (s₁.setTop (entryFrame m #[.ref b, .int (Int32.ofNat o), .ref d, .int (Int32.ofNat q), .int (Int32.ofNat len)] 7)) (Tl.setTop (mkF m 3 #[.val (.ref b), .val (.int (Int32.ofNat (o + i))), .val (.ref d), .val (.int (Int32.ofNat (q + i))), .val (.int (Int32.ofNat len)), .val (.int (Int32.ofNat i)), z] [])) → ∃ (T' : State) (B' : Cell) (z' : Slot), Stand p l e { frames := 0, locals := 0, cells := 0, slots := 0 } s m #[.ref b, .int (Int32.ofNat o), .ref d, .int (Int32.ofNat q), .int (Int32.ofNat len)] below meth c T' ([] ++ copyLocs d q len) 0 0 ∧ Put d B' s₁ T' ∧ Laid B B' q (q + len) (fun j => Value.int (lo8 (cv A (o + (j - q))))) ∧
      Steps p.tables e below (s₁.setTop (entryFrame m #[.ref b, .int (Int32.ofNat o), .ref d, .int (Int32.ofNat q), .int (Int32.ofNat len)] 7)) (T'.setTop (mkF m 3 #[.val (.ref b), .val (.int (Int32.ofNat (o + len))), .val (.ref d), .val (.int (Int32.ofNat (q + len))), .val (.int (Int32.ofNat len)), .val (.int (Int32.ofNat len)), z'] [])) := by
    intro r
    induction r with
    | zero =>
      intro i hi z hz Tl Bk Xl pl fl cl
      have hil : i = len := by omega
      rw [hil] at Xl fl cl
      exact ⟨Tl, Bk, z, Xl, pl, fl, cl⟩
    | succ r ih =>
      intro i hi z hz Tl Bk Xl pl fl cl
      have all := X0.warmed.alike.symm.trans Xl.warmed.alike
      have hAl := hA0.keep all (pl.other hne hA0.1)
      have hBk := hB0.like all pl.1 fl.1 fl.2.1 fl.2.2.1
      have hlt : q + i < Bk.slots.size := by rw [fl.2.2.1]; omega
      have c3 : Steps p.tables e below (s₁.setTop (entryFrame m #[.ref b, .int (Int32.ofNat o), .ref d, .int (Int32.ofNat q), .int (Int32.ofNat len)] 7)) (Tl.setTop (mkF m 12 #[.val (.ref b), .val (.int (Int32.ofNat (o + i))), .val (.ref d), .val (.int (Int32.ofNat (q + i))), .val (.int (Int32.ofNat len)), .val (.int (Int32.ofNat i)), z] [.int (Int32.ofNat (o + i)), .ref b])) := cl.trans (by
        refine XS.iload Xl.here hexec rfl (hb hbytes d3) rfl ?_
        refine XS.iload Xl.here hexec rfl (hb hbytes d5) rfl ?_
        refine XS.icmpNo Xl.here hexec rfl (hb hbytes d7) rfl (ii_ge_f (lt32 (by omega) (by omega))) ?_
        refine XS.aloadN Xl.here hexec rfl (hb hbytes d10) rfl rfl ?_
        refine XS.iloadN Xl.here hexec rfl (hb hbytes d11) rfl ?_
        exact Steps.refl _)
      have c4 : Steps p.tables e below (s₁.setTop (entryFrame m #[.ref b, .int (Int32.ofNat o), .ref d, .int (Int32.ofNat q), .int (Int32.ofNat len)] 7)) (Tl.setTop (mkF m 13 #[.val (.ref b), .val (.int (Int32.ofNat (o + i))), .val (.ref d), .val (.int (Int32.ofNat (q + i))), .val (.int (Int32.ofNat len)), .val (.int (Int32.ofNat i)), z] [.int (cv A (o + i))])) := c3.trans (by
        refine Xl.aget hexec hAl rfl (hA.get (i := o + i) (by omega)) rfl rfl (hb hbytes d12) ?_
        exact Steps.refl _)
      have c5 : Steps p.tables e below (s₁.setTop (entryFrame m #[.ref b, .int (Int32.ofNat o), .ref d, .int (Int32.ofNat q), .int (Int32.ofNat len)] 7)) (Tl.setTop (mkF m 15 #[.val (.ref b), .val (.int (Int32.ofNat (o + i))), .val (.ref d), .val (.int (Int32.ofNat (q + i))), .val (.int (Int32.ofNat len)), .val (.int (Int32.ofNat i)), .val (.int (cv A (o + i)))] [])) := c4.trans (by
        refine XS.istoreS Xl.here hexec rfl (hb hbytes d13) rfl rfl hz ?_
        exact Steps.refl _)
      have c6 : Steps p.tables e below (s₁.setTop (entryFrame m #[.ref b, .int (Int32.ofNat o), .ref d, .int (Int32.ofNat q), .int (Int32.ofNat len)] 7)) (Tl.setTop (mkF m 31 #[.val (.ref b), .val (.int (Int32.ofNat (o + i))), .val (.ref d), .val (.int (Int32.ofNat (q + i))), .val (.int (Int32.ofNat len)), .val (.int (Int32.ofNat i)), .val (.int (cv A (o + i)))] [.int (lo8 (cv A (o + i))), .int (Int32.ofNat (q + i)), .ref d])) := c5.trans (by
        refine XS.iload Xl.here hexec rfl (hb hbytes d15) rfl ?_
        refine sipushV Xl.here hexec rfl 255 (hb hbytes d17) (by decide) ?_
        refine XS.icmpYes Xl.here hexec rfl (pc0 := 20) rfl (hb hbytes d20) rfl (ii_le_t (hp i (by omega))) (by decide) rfl ?_
        refine XS.aloadN Xl.here hexec rfl (hb hbytes d26) rfl rfl ?_
        refine XS.iloadN Xl.here hexec rfl (hb hbytes d27) rfl ?_
        refine XS.iload Xl.here hexec rfl (hb hbytes d28) rfl ?_
        refine i2b Xl.here hexec rfl (hb hbytes d30) rfl ?_
        exact Steps.refl _)
      obtain ⟨T7, X7, p7, st7⟩ := Xl.aput hexec hBk rfl hlt rfl (fits_lo8 (cv A (o + i))) (g := (mkF m 31 #[.val (.ref b), .val (.int (Int32.ofNat (o + i))), .val (.ref d), .val (.int (Int32.ofNat (q + i))), .val (.int (Int32.ofNat len)), .val (.int (Int32.ofNat i)), .val (.int (cv A (o + i)))] [.int (lo8 (cv A (o + i))), .int (Int32.ofNat (q + i)), .ref d])) rfl (rest := []) rfl (hb hbytes d31)
      have c8 : Steps p.tables e below (s₁.setTop (entryFrame m #[.ref b, .int (Int32.ofNat o), .ref d, .int (Int32.ofNat q), .int (Int32.ofNat len)] 7)) (T7.setTop (mkF m 32 #[.val (.ref b), .val (.int (Int32.ofNat (o + i))), .val (.ref d), .val (.int (Int32.ofNat (q + i))), .val (.int (Int32.ofNat len)), .val (.int (Int32.ofNat i)), .val (.int (cv A (o + i)))] [])) := c6.trans (st7 _ (Steps.refl _))
      have c9 : Steps p.tables e below (s₁.setTop (entryFrame m #[.ref b, .int (Int32.ofNat o), .ref d, .int (Int32.ofNat q), .int (Int32.ofNat len)] 7)) (T7.setTop (mkF m 3 #[.val (.ref b), .val (.int (Int32.ofNat (o + i) + 1)), .val (.ref d), .val (.int (Int32.ofNat (q + i) + 1)), .val (.int (Int32.ofNat len)), .val (.int (Int32.ofNat i + 1)), .val (.int (cv A (o + i)))] [])) := c8.trans (by
        refine iincV X7.here hexec rfl 1 (hb hbytes d32) (by decide) rfl rfl ?_
        refine iincV X7.here hexec rfl 1 (hb hbytes d35) (by decide) rfl rfl ?_
        refine iincV X7.here hexec rfl 1 (hb hbytes d38) (by decide) rfl rfl ?_
        refine XS.goto X7.here hexec rfl (pc0 := 41) rfl (hb hbytes d41) (by decide) rfl ?_
        exact Steps.refl _)
      have c10 : Steps p.tables e below (s₁.setTop (entryFrame m #[.ref b, .int (Int32.ofNat o), .ref d, .int (Int32.ofNat q), .int (Int32.ofNat len)] 7)) (T7.setTop (mkF m 3 #[.val (.ref b), .val (.int (Int32.ofNat (o + (i + 1)))), .val (.ref d), .val (.int (Int32.ofNat (q + (i + 1)))), .val (.int (Int32.ofNat len)), .val (.int (Int32.ofNat (i + 1))), .val (.int (cv A (o + i)))] [])) := by
        have := c9
        rw [succ32, succ32, succ32] at this
        exact this
      exact ih (i + 1) (by omega) _ (Or.inr ⟨_, rfl, rfl⟩) T7 _ (by rw [copyLocs_step, ← List.append_assoc]; exact X7) (pl.trans p7) (fl.step (by omega) hlt (by simp)) c10
  obtain ⟨T9, B9, z9, X9, p9, f9, g9⟩ := loop len 0 (by omega) .unset (Or.inl rfl) s₁ B (by simpa [copyLocs] using X0) ⟨hB0.1, fun _ _ => rfl, rfl⟩ (Laid.zero _ _ _) c2
  have c11 : Steps p.tables e below (s₁.setTop (entryFrame m #[.ref b, .int (Int32.ofNat o), .ref d, .int (Int32.ofNat q), .int (Int32.ofNat len)] 7)) (T9.setTop (mkF m 46 #[.val (.ref b), .val (.int (Int32.ofNat (o + len))), .val (.ref d), .val (.int (Int32.ofNat (q + len))), .val (.int (Int32.ofNat len)), .val (.int (Int32.ofNat len)), z9] [.int (Int32.ofNat len)])) := g9.trans (by
    refine XS.iload X9.here hexec rfl (hb hbytes d3) rfl ?_
    refine XS.iload X9.here hexec rfl (hb hbytes d5) rfl ?_
    refine XS.icmpYes X9.here hexec rfl (pc0 := 7) rfl (hb hbytes d7) rfl (ii_ge_t (nlt32 (by omega) (Nat.le_refl _))) (by decide) rfl ?_
    refine XS.iload X9.here hexec rfl (hb hbytes d44) rfl ?_
    exact Steps.refl _)
  exact ⟨T9, some (.int (Int32.ofNat len)), _, _, _, X9, by simp, rfl, rfl, (fun h => by cases h), ⟨rfl, B9, p9.from hh0, f9⟩, fun fs hl => c11.trans (X9.ireturnOut hexec hret rfl (Or.inl rfl) (hb hbytes d46) hl)⟩
end Cmp5
namespace Cmp3
def yN : MethodName := ⟨"java/lang/StringUTF16", "compress", "([CII)[B"⟩
abbrev yB : ByteArray := jdk_52_method_16_code
theorem d0 : decode yB 0 = .ok (.iload_n 2, 1) := by decide +kernel
theorem d1 : decode yB 1 = .ok (.newarray .byte, 2) := by decide +kernel
theorem d3 : decode yB 3 = .ok (.astore_n 3, 1) := by decide +kernel
theorem d4 : decode yB 4 = .ok (.aload_n 0, 1) := by decide +kernel
theorem d5 : decode yB 5 = .ok (.iload_n 1, 1) := by decide +kernel
theorem d6 : decode yB 6 = .ok (.aload_n 3, 1) := by decide +kernel
theorem d7 : decode yB 7 = .ok (.iconst 0, 1) := by decide +kernel
theorem d8 : decode yB 8 = .ok (.iload_n 2, 1) := by decide +kernel
theorem d9 : decode yB 9 = .ok (.invokestatic 115, 3) := by decide +kernel
theorem d12 : decode yB 12 = .ok (.istore 4, 2) := by decide +kernel
theorem d14 : decode yB 14 = .ok (.iload 4, 2) := by decide +kernel
theorem d16 : decode yB 16 = .ok (.iload_n 2, 1) := by decide +kernel
theorem d17 : decode yB 17 = .ok (.if_icmp (.eq) 40, 3) := by decide +kernel
theorem d57 : decode yB 57 = .ok (.aload_n 3, 1) := by decide +kernel
theorem d58 : decode yB 58 = .ok (.areturn, 1) := by decide +kernel
def site : List Cond := [.arrayClass .byte, Cmp5.tab] ++ staticW U16 115 Cmp5.yN
def tab : Cond := tabOf yN yB 6 (some (.array .byte)) site
def P (b : Addr) (A : Cell) (o len : Nat) (args : Array Value) (s : State) : Prop := args = #[.ref b, .int (Int32.ofNat o), .int (Int32.ofNat len)] ∧ Ch b A s ∧ o + len ≤ A.slots.size ∧ len ≤ 536870912 ∧ ∀ i, i < len → ¬ 255 < cv A (o + i)
def E (b : Addr) (A : Cell) (o len : Nat) (r : Option Value) (s u : State) : Prop := NewArr .byte "[B" len (fun j => .int (lo8 (cv A (o + j)))) r s u ∧ u.heap.size = s.heap.size + 1
/-- no char of the range above 255: a new byte[] of their low bytes -/
theorem law (l : Launch) (b : Addr) (A : Cell) (o len : Nat) : Law l yN 3 3 1 18 yB 6 (some (.array .byte)) site (P b A o len) (E b A o len) [] 1 len := by
  refine Law.of_walk (plainFor_of_name (by decide +kernel)) (by decide +kernel) (by decide +kernel) (by decide) (fun _ _ h => by rw [h.1]; rfl) (fun _ U U' hal hh h => ⟨h.1, h.2.1.mv hal hh, h.2.2⟩) (fun r U U' V V' h1 hal h2 h => ⟨NewArr.mv r U U' V V' h1 hal h2 h.1, by rw [h1, h2]; exact h.2⟩) ?_
  intro p e s m args below meth c s₁ X0 hexec hbytes hml hret hlk hnm hown hh0 W hP
  obtain ⟨rfl, hA, l1, l2, hp⟩ := hP
  have a31 := hA.1.2.2.2
  have c1 : Steps p.tables e below (s₁.setTop (entryFrame m #[.ref b, .int (Int32.ofNat o), .int (Int32.ofNat len)] 6)) (s₁.setTop (mkF m 0 #[.val (.ref b), .val (.int (Int32.ofNat o)), .val (.int (Int32.ofNat len)), .unset, .unset, .unset] [])) := entry rfl
  have c2 : Steps p.tables e below (s₁.setTop (entryFrame m #[.ref b, .int (Int32.ofNat o), .int (Int32.ofNat len)] 6)) (s₁.setTop (mkF m 1 #[.val (.ref b), .val (.int (Int32.ofNat o)), .val (.int (Int32.ofNat len)), .unset, .unset, .unset] [.int (Int32.ofNat len)])) := c1.trans (by
    refine XS.iloadN X0.here hexec rfl (hb hbytes d0) rfl ?_
    exact Steps.refl _)
  obtain ⟨T3, B3, X3, ba3, bs3, bv3, bh3, bf3, st3⟩ := X0.anew hexec (atype := .byte) (wk W (.arrayClass .byte)) rfl (by show len * 1 ≤ _; omega) (by omega) (g := (mkF m 1 #[.val (.ref b), .val (.int (Int32.ofNat o)), .val (.int (Int32.ofNat len)), .unset, .unset, .unset] [.int (Int32.ofNat len)])) rfl (hb hbytes d1) (rest := []) rfl (Nat.le_refl _) (by show 0 + len ≤ len; omega)
  rw [hh0] at ba3 st3
  have kp3 : XT.Kept s T3 := (XT.Kept.of_eq hh0).push bh3
  have hA3 := hA.keep X3.warmed.alike (kp3 _ _ hA.1.1)
  have hne : b ≠ s.heap.size := hA.1.ne
  have c4 : Steps p.tables e below (s₁.setTop (entryFrame m #[.ref b, .int (Int32.ofNat o), .int (Int32.ofNat len)] 6)) (T3.setTop (mkF m 3 #[.val (.ref b), .val (.int (Int32.ofNat o)), .val (.int (Int32.ofNat len)), .unset, .unset, .unset] [.ref s.heap.size])) := c2.trans (st3 _ (Steps.refl _))
  have c5 : Steps p.tables e below (s₁.setTop (entryFrame m #[.ref b, .int (Int32.ofNat o), .int (Int32.ofNat len)] 6)) (T3.setTop (mkF m 9 #[.val (.ref b), .val (.int (Int32.ofNat o)), .val (.int (Int32.ofNat len)), .val (.ref s.heap.size), .unset, .unset] [.int (Int32.ofNat len), .int 0, .ref s.heap.size, .int (Int32.ofNat o), .ref b])) := c4.trans (by
    refine XS.astoreN X3.here hexec rfl (hb hbytes d3) rfl rfl rfl ?_
    refine XS.aloadN X3.here hexec rfl (hb hbytes d4) rfl rfl ?_
    refine XS.iloadN X3.here hexec rfl (hb hbytes d5) rfl ?_
    refine XS.aloadN X3.here hexec rfl (hb hbytes d6) rfl rfl ?_
    refine iconstV X3.here hexec rfl 0 (hb hbytes d7) (by decide) ?_
    refine XS.iloadN X3.here hexec rfl (hb hbytes d8) rfl ?_
    exact Steps.refl _)
  obtain ⟨v6, T6, X6, E6, g6⟩ := X3.callS hexec (Cmp5.law l b A s.heap.size B3 o 0 len) hown (wks W (staticW U16 115 Cmp5.yN)) (wk W Cmp5.tab) (W := 0) (Nat.le_of_ble_eq_true rfl) (Nat.le_of_ble_eq_true rfl) (Nat.le_refl _) (by show 0 + len + 0 ≤ len; omega) (g := (mkF m 9 #[.val (.ref b), .val (.int (Int32.ofNat o)), .val (.int (Int32.ofNat len)), .val (.ref s.heap.size), .unset, .unset] [.int (Int32.ofNat len), .int (Int32.ofNat 0), .ref s.heap.size, .int (Int32.ofNat o), .ref b])) rfl (by rw [hml]; rfl) c5 (argsL := [.ref b, .int (Int32.ofNat o), .ref s.heap.size, .int (Int32.ofNat 0), .int (Int32.ofNat len)]) (rest := []) rfl rfl (by show 2 * 0 + 0 ≤ _; decide) (hb hbytes d9) (⟨rfl, hA3, ba3, hne, l1, by rw [bs3]; simp, hp⟩)
  obtain ⟨rfl, B6, p6, f6⟩ := E6
  have c7 : Steps p.tables e below (s₁.setTop (entryFrame m #[.ref b, .int (Int32.ofNat o), .int (Int32.ofNat len)] 6)) (T6.setTop (mkF m 12 #[.val (.ref b), .val (.int (Int32.ofNat o)), .val (.int (Int32.ofNat len)), .val (.ref s.heap.size), .unset, .unset] [.int (Int32.ofNat len)])) := g6
  have c8 : Steps p.tables e below (s₁.setTop (entryFrame m #[.ref b, .int (Int32.ofNat o), .int (Int32.ofNat len)] 6)) (T6.setTop (mkF m 58 #[.val (.ref b), .val (.int (Int32.ofNat o)), .val (.int (Int32.ofNat len)), .val (.ref s.heap.size), .val (.int (Int32.ofNat len)), .unset] [.ref s.heap.size])) := c7.trans (by
    refine XS.istore X6.here hexec rfl (hb hbytes d12) rfl rfl ?_
    refine XS.iload X6.here hexec rfl (hb hbytes d14) rfl ?_
    refine XS.iloadN X6.here hexec rfl (hb hbytes d16) rfl ?_
    refine XS.icmpYes X6.here hexec rfl (pc0 := 17) rfl (hb hbytes d17) rfl (ii_eq_t rfl) (by decide) rfl ?_
    refine XS.aloadN X6.here hexec rfl (hb hbytes d57) rfl rfl ?_
    exact Steps.refl _)
  have X8 := X6.wide (L' := []) (cells' := 1) (slots' := len) (fun x hx hlt => by
    simp only [List.nil_append, copyLocs, List.mem_map, List.mem_range] at hx
    obtain ⟨i, -, rfl⟩ := hx
    exact absurd hlt (Nat.lt_irrefl _)) (Nat.le_refl _) (by omega)
  exact ⟨T6, some (.ref s.heap.size), _, _, _, X8, rfl, rfl, rfl, (fun h => by cases h), ⟨⟨rfl, B6, ba3.like (X3.warmed.alike.symm.trans X6.warmed.alike) p6.1 f6.1 f6.2.1 f6.2.2.1, f6.2.1.trans bv3, by rw [X6.warmed.alike.findClass, f6.1]; exact bf3, by rw [f6.2.2.1, bs3]; simp, fun j hj => by rw [f6.2.2.2 j, if_pos (by omega)]; rfl, kp3.put p6 (Nat.le_refl _)⟩, by rw [p6.2.2, bh3, hh0]; simp⟩, fun fs hl => c8.trans (X8.areturnOut hexec rfl hret rfl (hb hbytes d58) hl)⟩
end Cmp3
namespace CodL
def yN : MethodName := ⟨"java/lang/StringUTF16", "coderFromArrayLen", "([BI)B"⟩
abbrev yB : ByteArray := jdk_52_method_15_code
theorem d0 : decode yB 0 = .ok (.iload_n 1, 1) := by decide +kernel
theorem d1 : decode yB 1 = .ok (.aload_n 0, 1) := by decide +kernel
theorem d2 : decode yB 2 = .ok (.arraylength, 1) := by decide +kernel
theorem d3 : decode yB 3 = .ok (.isub, 1) := by decide +kernel
theorem d4 : decode yB 4 = .ok (.bipush 31, 2) := by decide +kernel
theorem d6 : decode yB 6 = .ok (.iushr, 1) := by decide +kernel
theorem d7 : decode yB 7 = .ok (.i2b, 1) := by decide +kernel
theorem d8 : decode yB 8 = .ok (.ireturn, 1) := by decide +kernel
def site : List Cond := []
def tab : Cond := tabOf yN yB 2 (some .byte) site
def P (d : Addr) (B : Cell) (args : Array Value) (s : State) : Prop := args = #[.ref d, .int (Int32.ofNat B.slots.size)] ∧ Arr .byte d B s
def E (r : Option Value) (s u : State) : Prop := XT.PureE (some (.int 0)) r s u
/-- an array as long as the number of chars: LATIN1 -/
theorem law (l : Launch) (d : Addr) (B : Cell) : Law l yN 2 2 0 0 yB 2 (some .byte) site (P d B) E [] 0 0 := by
  refine Law.of_walk (plainFor_of_name (by decide +kernel)) (by decide +kernel) (by decide +kernel) (by decide) (fun _ _ h => by rw [h.1]; rfl) (fun _ U U' hal hh h => ⟨h.1, h.2.mv hal hh⟩) (fun r U U' V V' h1 hal h2 h => XT.PureE.mv r U U' V V' h1 hal h2 h) ?_
  intro p e s m args below meth c s₁ X0 hexec hbytes hml hret hlk hnm hown hh0 W hP
  obtain ⟨rfl, hB⟩ := hP
  have hB0 := hB.mv X0.warmed.alike hh0
  have c1 : Steps p.tables e below (s₁.setTop (entryFrame m #[.ref d, .int (Int32.ofNat B.slots.size)] 2)) (s₁.setTop (mkF m 0 #[.val (.ref d), .val (.int (Int32.ofNat B.slots.size))] [])) := entry rfl
  have c2 : Steps p.tables e below (s₁.setTop (entryFrame m #[.ref d, .int (Int32.ofNat B.slots.size)] 2)) (s₁.setTop (mkF m 2 #[.val (.ref d), .val (.int (Int32.ofNat B.slots.size))] [.ref d, .int (Int32.ofNat B.slots.size)])) := c1.trans (by
    refine XS.iloadN X0.here hexec rfl (hb hbytes d0) rfl ?_
    refine XS.aloadN X0.here hexec rfl (hb hbytes d1) rfl rfl ?_
    exact Steps.refl _)
  have c3 : Steps p.tables e below (s₁.setTop (entryFrame m #[.ref d, .int (Int32.ofNat B.slots.size)] 2)) (s₁.setTop (mkF m 8 #[.val (.ref d), .val (.int (Int32.ofNat B.slots.size))] [.int (lo8 (ushr (Int32.ofNat B.slots.size - Int32.ofNat B.slots.size) 31))])) := c2.trans (by
    refine X0.alen hexec hB0 rfl rfl (hb hbytes d2) ?_
    refine XS.isub X0.here hexec rfl (hb hbytes d3) rfl ?_
    refine bipushV X0.here hexec rfl 31 (hb hbytes d4) (by decide) ?_
    refine iushr X0.here hexec rfl (hb hbytes d6) rfl ?_
    refine i2b X0.here hexec rfl (hb hbytes d7) rfl ?_
    exact Steps.refl _)
  have e0 : lo8 (ushr (Int32.ofNat B.slots.size - Int32.ofNat B.slots.size) 31) = 0 := by rw [Int32.sub_self]; decide
  rw [e0] at c3
  exact ⟨s₁, some (.int 0), _, _, _, X0, rfl, rfl, rfl, (fun h => by cases h), ⟨rfl, hh0⟩, fun fs hl => c3.trans (X0.ireturnOut hexec hret rfl (Or.inr (Or.inr (Or.inl rfl))) (hb hbytes d8) hl)⟩
end CodL
/-- the String at a is Latin-1 over a new byte[] (the heap's one new cell): the low bytes of the len chars of A from o on; every cell but a is kept -/
def Got (a : Addr) (D : Cell) (fV fC : Field) (A : Cell) (o len : Nat) (r : Option Value) (s u : State) : Prop := r = none ∧ ∃ D' V : Cell, Blank "java/lang/String" a D' u ∧ Same D D' [fV.slot, fC.slot] ∧ D'.slots[fV.slot]? = some (.ref s.heap.size) ∧ D'.slots[fC.slot]? = some (.int 0) ∧ Arr .byte s.heap.size V u ∧ V.vm = .none ∧ u.vm.findClass "[B" = some V.cls ∧ V.slots.size = len ∧ (∀ j, j < len → V.slots[j]? = some (.int (lo8 (cv A (o + j))))) ∧ (∀ (y : Addr) (c : Cell), y ≠ a → s.heap[y]? = some c → u.heap[y]? = some c) ∧ u.heap.size = s.heap.size + 1
theorem Got.mv {a : Addr} {D A : Cell} {fV fC : Field} {o len : Nat} : ∀ r (U U' V V' : State), U'.heap = U.heap → V.vm.Alike V'.vm → V'.heap = V.heap → Got a D fV fC A o len r U V → Got a D fV fC A o len r U' V' :=
  fun r U U' V V' h1 hal h2 ⟨e0, D', X, a1, a2, a3, a4, a5, a6, a7, a8, a9, a10, a11⟩ => ⟨e0, D', X, a1.mv hal h2, a2, by rw [h1]; exact a3, a4, by rw [h1]; exact a5.mv hal h2, a6, by rw [hal.findClass]; exact a7, a8, a9, by rw [h1, h2]; exact a10, by rw [h1, h2]; exact a11⟩
namespace New4
def yN : MethodName := ⟨"java/lang/String", "<init>", "([CIILjava/lang/Void;)V"⟩
abbrev yB : ByteArray := jdk_42_method_149_code
theorem d0 : decode yB 0 = .ok (.aload_n 0, 1) := by decide +kernel
theorem d1 : decode yB 1 = .ok (.invokespecial 1, 3) := by decide +kernel
theorem d4 : decode yB 4 = .ok (.iload_n 3, 1) := by decide +kernel
theorem d5 : decode yB 5 = .ok (.ifCond (.ne) 22, 3) := by decide +kernel
theorem d27 : decode yB 27 = .ok (.getstatic 38, 3) := by decide +kernel
theorem d30 : decode yB 30 = .ok (.ifCond (.eq) 28, 3) := by decide +kernel
theorem d33 : decode yB 33 = .ok (.aload_n 1, 1) := by decide +kernel
theorem d34 : decode yB 34 = .ok (.iload_n 2, 1) := by decide +kernel
theorem d35 : decode yB 35 = .ok (.iload_n 3, 1) := by decide +kernel
theorem d36 : decode yB 36 = .ok (.invokestatic 177, 3) := by decide +kernel
theorem d39 : decode yB 39 = .ok (.astore 5, 2) := by decide +kernel
theorem d41 : decode yB 41 = .ok (.aload_n 0, 1) := by decide +kernel
theorem d42 : decode yB 42 = .ok (.aload 5, 2) := by decide +kernel
theorem d44 : decode yB 44 = .ok (.iload_n 3, 1) := by decide +kernel
theorem d45 : decode yB 45 = .ok (.invokestatic 47, 3) := by decide +kernel
theorem d48 : decode yB 48 = .ok (.putfield 15, 3) := by decide +kernel
theorem d51 : decode yB 51 = .ok (.aload_n 0, 1) := by decide +kernel
theorem d52 : decode yB 52 = .ok (.aload 5, 2) := by decide +kernel
theorem d54 : decode yB 54 = .ok (.putfield 9, 3) := by decide +kernel
theorem d57 : decode yB 57 = .ok (.return_, 1) := by decide +kernel
def site : List Cond := [.fieldLink "java/lang/String" 38 "java/lang/String" "COMPACT_STRINGS" "Z", Cmp3.tab, CodL.tab, .laysFinal "java/lang/String" "java/lang/String" "value" "[B", .fieldLink "java/lang/String" 9 "java/lang/String" "value" "[B", .laysFinal "java/lang/String" "java/lang/String" "coder" "B", .fieldLink "java/lang/String" 15 "java/lang/String" "coder" "B"] ++ objW "java/lang/String" 1 ++ staticW "java/lang/String" 177 Cmp3.yN ++ staticW "java/lang/String" 47 CodL.yN
def tab : Cond := tabOf yN yB 6 none site
def P (a : Addr) (D : Cell) (fV fC : Field) (b : Addr) (A : Cell) (z : Int32) (o len : Nat) (args : Array Value) (s : State) : Prop := args = #[.ref a, .ref b, .int (Int32.ofNat o), .int (Int32.ofNat len), .null] ∧ Blank "java/lang/String" a D s ∧ Found "java/lang/String" "value" "[B" fV s ∧ Found "java/lang/String" "coder" "B" fC s ∧ Ch b A s ∧ StaticIs s "java/lang/String" "COMPACT_STRINGS" "Z" (.int z) ∧ ¬ z = 0 ∧ 0 < len ∧ o + len ≤ A.slots.size ∧ len ≤ 536870912 ∧ ∀ i, i < len → ¬ 255 < cv A (o + i)
def E (a : Addr) (D : Cell) (fV fC : Field) (A : Cell) (o len : Nat) (r : Option Value) (s u : State) : Prop := Got a D fV fC A o len r s u
/-- len > 0, no char of the range above 255: a Latin-1 String of their low bytes -/
theorem law (l : Launch) (a : Addr) (D : Cell) (fV fC : Field) (b : Addr) (A : Cell) (z : Int32) (o len : Nat) : Law l yN 5 4 2 35 yB 6 none site (P a D fV fC b A z o len) (E a D fV fC A o len) [⟨a, fC.slot⟩, ⟨a, fV.slot⟩] 1 len := by
  refine Law.of_walk (plainFor_of_name (by decide +kernel)) (by decide +kernel) (by decide +kernel) (by decide) (fun _ _ h => by rw [h.1]; rfl) (fun _ U U' hal hh h => ⟨h.1, h.2.1.mv hal hh, h.2.2.1.al hal, h.2.2.2.1.al hal, h.2.2.2.2.1.mv hal hh, h.2.2.2.2.2.1.there hal hh, h.2.2.2.2.2.2⟩) (fun r U U' V V' h1 hal h2 h => Got.mv r U U' V V' h1 hal h2 h) ?_
  intro p e s m args below meth c s₁ X0 hexec hbytes hml hret hlk hnm hown hh0 W hP
  obtain ⟨rfl, hB, f1, f2, hA, s1, hz, l0, l1, l2, hp⟩ := hP
  have a31 := hA.1.2.2.2
  have c1 : Steps p.tables e below (s₁.setTop (entryFrame m #[.ref a, .ref b, .int (Int32.ofNat o), .int (Int32.ofNat len), .null] 6)) (s₁.setTop (mkF m 0 #[.val (.ref a), .val (.ref b), .val (.int (Int32.ofNat o)), .val (.int (Int32.ofNat len)), .val .null, .unset] [])) := entry rfl
  have c2 : Steps p.tables e below (s₁.setTop (entryFrame m #[.ref a, .ref b, .int (Int32.ofNat o), .int (Int32.ofNat len), .null] 6)) (s₁.setTop (mkF m 1 #[.val (.ref a), .val (.ref b), .val (.int (Int32.ofNat o)), .val (.int (Int32.ofNat len)), .val .null, .unset] [.ref a])) := c1.trans (by
    refine XS.aloadN X0.here hexec rfl (hb hbytes d0) rfl rfl ?_
    exact Steps.refl _)
  obtain ⟨T3, X3, q3, st3⟩ := X0.oinit hexec hown (wks W (objW "java/lang/String" 1)) (g := (mkF m 1 #[.val (.ref a), .val (.ref b), .val (.int (Int32.ofNat o)), .val (.int (Int32.ofNat len)), .val .null, .unset] [.ref a])) rfl (by rw [hml]; rfl) (rest := []) rfl (hb hbytes d1) (W := 0) (by show 2 * 0 + 0 ≤ _; decide) (Nat.le_of_ble_eq_true rfl) (Nat.le_of_ble_eq_true rfl)
  have hh3 := q3.trans hh0
  have c4 : Steps p.tables e below (s₁.setTop (entryFrame m #[.ref a, .ref b, .int (Int32.ofNat o), .int (Int32.ofNat len), .null] 6)) (T3.setTop (mkF m 27 #[.val (.ref a), .val (.ref b), .val (.int (Int32.ofNat o)), .val (.int (Int32.ofNat len)), .val .null, .unset] [])) := (c2.trans (st3 _ (Steps.refl _))).trans (by
    refine XS.iloadN X3.here hexec rfl (hb hbytes d4) rfl ?_
    refine XS.ifYes X3.here hexec rfl (pc0 := 5) rfl (hb hbytes d5) rfl (i0_ne_t (nz32 (by omega) l0)) (by decide) rfl ?_
    exact Steps.refl _)
  obtain ⟨T5, X5, q5, st5⟩ := X3.sget hexec hown (wk W (.fieldLink "java/lang/String" 38 "java/lang/String" "COMPACT_STRINGS" "Z")) s1 (fun _ _ h => by rw [hh3]; exact h) (g := (mkF m 27 #[.val (.ref a), .val (.ref b), .val (.int (Int32.ofNat o)), .val (.int (Int32.ofNat len)), .val .null, .unset] [])) rfl (hb hbytes d27)
  have hh5 := q5.trans hh3
  have c6 : Steps p.tables e below (s₁.setTop (entryFrame m #[.ref a, .ref b, .int (Int32.ofNat o), .int (Int32.ofNat len), .null] 6)) (T5.setTop (mkF m 30 #[.val (.ref a), .val (.ref b), .val (.int (Int32.ofNat o)), .val (.int (Int32.ofNat len)), .val .null, .unset] [.int z])) := c4.trans (st5 _ (Steps.refl _))
  have c7 : Steps p.tables e below (s₁.setTop (entryFrame m #[.ref a, .ref b, .int (Int32.ofNat o), .int (Int32.ofNat len), .null] 6)) (T5.setTop (mkF m 36 #[.val (.ref a), .val (.ref b), .val (.int (Int32.ofNat o)), .val (.int (Int32.ofNat len)), .val .null, .unset] [.int (Int32.ofNat len), .int (Int32.ofNat o), .ref b])) := c6.trans (by
    refine XS.ifNo X5.here hexec rfl (hb hbytes d30) rfl (i0_eq_f hz) ?_
    refine XS.aloadN X5.here hexec rfl (hb hbytes d33) rfl rfl ?_
    refine XS.iloadN X5.here hexec rfl (hb hbytes d34) rfl ?_
    refine XS.iloadN X5.here hexec rfl (hb hbytes d35) rfl ?_
    exact Steps.refl _)
  obtain ⟨v8, T8, X8, E8, g8⟩ := X5.callS hexec (Cmp3.law l b A o len) hown (wks W (staticW "java/lang/String" 177 Cmp3.yN)) (wk W Cmp3.tab) (W := 0) (Nat.le_of_ble_eq_true rfl) (Nat.le_of_ble_eq_true rfl) (Nat.le_refl _) (by show 0 + len ≤ len; omega) (g := (mkF m 36 #[.val (.ref a), .val (.ref b), .val (.int (Int32.ofNat o)), .val (.int (Int32.ofNat len)), .val .null, .unset] [.int (Int32.ofNat len), .int (Int32.ofNat o), .ref b])) rfl (by rw [hml]; rfl) c7 (argsL := [.ref b, .int (Int32.ofNat o), .int (Int32.ofNat len)]) (rest := []) rfl rfl (by show 2 * 0 + 0 ≤ _; decide) (hb hbytes d36) (⟨rfl, hA.mv X5.warmed.alike hh5, l1, l2, hp⟩)
  obtain ⟨e8, z8⟩ := E8
  obtain ⟨rfl, N, n1, n2, n3, n4, n5, n6⟩ := NewArr.mv _ T5 s _ _ hh5.symm (Vm.Alike.refl _) rfl e8
  rw [hh5] at z8
  have hB1 := hB.keep X8.warmed.alike (n6 _ _ hB.1)
  have hne : s.heap.size ≠ a := (Nat.ne_of_lt (Array.getElem?_eq_some_iff.mp hB.1).1).symm
  have c9 : Steps p.tables e below (s₁.setTop (entryFrame m #[.ref a, .ref b, .int (Int32.ofNat o), .int (Int32.ofNat len), .null] 6)) (T8.setTop (mkF m 39 #[.val (.ref a), .val (.ref b), .val (.int (Int32.ofNat o)), .val (.int (Int32.ofNat len)), .val .null, .unset] [.ref s.heap.size])) := g8
  have c10 : Steps p.tables e below (s₁.setTop (entryFrame m #[.ref a, .ref b, .int (Int32.ofNat o), .int (Int32.ofNat len), .null] 6)) (T8.setTop (mkF m 45 #[.val (.ref a), .val (.ref b), .val (.int (Int32.ofNat o)), .val (.int (Int32.ofNat len)), .val .null, .val (.ref s.heap.size)] [.int (Int32.ofNat N.slots.size), .ref s.heap.size, .ref a])) := by
    have hc : Steps p.tables e below (s₁.setTop (entryFrame m #[.ref a, .ref b, .int (Int32.ofNat o), .int (Int32.ofNat len), .null] 6)) (T8.setTop (mkF m 45 #[.val (.ref a), .val (.ref b), .val (.int (Int32.ofNat o)), .val (.int (Int32.ofNat len)), .val .null, .val (.ref s.heap.size)] [.int (Int32.ofNat len), .ref s.heap.size, .ref a])) := c9.trans (by
      refine XS.astore X8.here hexec rfl (hb hbytes d39) rfl rfl rfl ?_
      refine XS.aloadN X8.here hexec rfl (hb hbytes d41) rfl rfl ?_
      refine XS.aload X8.here hexec rfl (hb hbytes d42) rfl rfl ?_
      refine XS.iloadN X8.here hexec rfl (hb hbytes d44) rfl ?_
      exact Steps.refl _)
    rw [n4]; exact hc
  obtain ⟨v11, T11, X11, E11, g11⟩ := X8.callS hexec (CodL.law l s.heap.size N) hown (wks W (staticW "java/lang/String" 47 CodL.yN)) (wk W CodL.tab) (W := 1) (Nat.le_of_ble_eq_true rfl) (Nat.le_of_ble_eq_true rfl) (Nat.le_refl _) (by show 0 + len + 0 ≤ len; omega) (g := (mkF m 45 #[.val (.ref a), .val (.ref b), .val (.int (Int32.ofNat o)), .val (.int (Int32.ofNat len)), .val .null, .val (.ref s.heap.size)] [.int (Int32.ofNat N.slots.size), .ref s.heap.size, .ref a])) rfl (by rw [hml]; rfl) c10 (argsL := [.ref s.heap.size, .int (Int32.ofNat N.slots.size)]) (rest := [.ref a]) rfl rfl (by show 2 * 0 + (1 + 0) ≤ _; decide) (hb hbytes d45) (⟨rfl, n1⟩)
  obtain ⟨rfl, q11⟩ := E11
  have hB11 := hB1.mv (X8.warmed.alike.symm.trans X11.warmed.alike) q11
  have c12 : Steps p.tables e below (s₁.setTop (entryFrame m #[.ref a, .ref b, .int (Int32.ofNat o), .int (Int32.ofNat len), .null] 6)) (T11.setTop (mkF m 48 #[.val (.ref a), .val (.ref b), .val (.int (Int32.ofNat o)), .val (.int (Int32.ofNat len)), .val .null, .val (.ref s.heap.size)] [.int 0, .ref a])) := g11
  obtain ⟨T13, X13, p13, bl13, sl13, st13⟩ := X11.finit hexec hown (wk W (.fieldLink "java/lang/String" 15 "java/lang/String" "coder" "B")) (Or.inr ⟨_, (wk W (.laysFinal "java/lang/String" "java/lang/String" "coder" "B"))⟩) (Or.inl ⟨rfl, hnm⟩) f2 (Or.inl rfl) hB11 (t := .byte) (by decide +kernel) rfl (g := (mkF m 48 #[.val (.ref a), .val (.ref b), .val (.int (Int32.ofNat o)), .val (.int (Int32.ofNat len)), .val .null, .val (.ref s.heap.size)] [.int 0, .ref a])) rfl (rest := []) rfl (hb hbytes d48)
  have c14 : Steps p.tables e below (s₁.setTop (entryFrame m #[.ref a, .ref b, .int (Int32.ofNat o), .int (Int32.ofNat len), .null] 6)) (T13.setTop (mkF m 54 #[.val (.ref a), .val (.ref b), .val (.int (Int32.ofNat o)), .val (.int (Int32.ofNat len)), .val .null, .val (.ref s.heap.size)] [.ref s.heap.size, .ref a])) := (c12.trans (st13 _ (Steps.refl _))).trans (by
    refine XS.aloadN X13.here hexec rfl (hb hbytes d51) rfl rfl ?_
    refine XS.aload X13.here hexec rfl (hb hbytes d52) rfl rfl ?_
    exact Steps.refl _)
  obtain ⟨T15, X15, p15, bl15, sl15, st15⟩ := X13.finit hexec hown (wk W (.fieldLink "java/lang/String" 9 "java/lang/String" "value" "[B")) (Or.inr ⟨_, (wk W (.laysFinal "java/lang/String" "java/lang/String" "value" "[B"))⟩) (Or.inl ⟨rfl, hnm⟩) f1 (Or.inl rfl) bl13 (t := (.array .byte)) (by decide +kernel) rfl (g := (mkF m 54 #[.val (.ref a), .val (.ref b), .val (.int (Int32.ofNat o)), .val (.int (Int32.ofNat len)), .val .null, .val (.ref s.heap.size)] [.ref s.heap.size, .ref a])) rfl (rest := []) rfl (hb hbytes d54)
  have c16 : Steps p.tables e below (s₁.setTop (entryFrame m #[.ref a, .ref b, .int (Int32.ofNat o), .int (Int32.ofNat len), .null] 6)) (T15.setTop (mkF m 57 #[.val (.ref a), .val (.ref b), .val (.int (Int32.ofNat o)), .val (.int (Int32.ofNat len)), .val .null, .val (.ref s.heap.size)] [])) := c14.trans (st15 _ (Steps.refl _))
  have ap := apart (Or.inr ⟨_, (wk W (.laysFinal "java/lang/String" "java/lang/String" "value" "[B"))⟩) (Or.inr ⟨_, (wk W (.laysFinal "java/lang/String" "java/lang/String" "coder" "B"))⟩) f1 f2 (t₁ := .array .byte) (t₂ := .byte) (by decide +kernel) (by decide +kernel) (by decide)
  have al := X8.warmed.alike.symm.trans X15.warmed.alike
  have n7 : T11.heap[s.heap.size]? = some N := by rw [q11]; exact n1.1
  exact ⟨T15, none, _, _, _, X15, by simp, rfl, by omega, (fun _ => rfl), ⟨rfl, _, N, bl15, ((Same.refl D _).set _ (by simp)).set _ (by simp), sl15, (Cell.slots_setSlot_ne _ ap).trans sl13, n1.keep al (p15.other hne (p13.other hne n7)), n2, by rw [al.findClass]; exact n3, n4, n5, fun y c h1 h2 => p15.other h1 (p13.other h1 (by rw [q11]; exact n6 y c h2)), by rw [p15.2.2, p13.2.2, q11]; exact z8⟩, fun fs hl => c16.trans (X15.returnOut hexec hret (hb hbytes d57) hl)⟩
end New4
namespace New1
def yN : MethodName := ⟨"java/lang/String", "<init>", "([C)V"⟩
abbrev yB : ByteArray := jdk_42_method_3_code
theorem d0 : decode yB 0 = .ok (.aload_n 0, 1) := by decide +kernel
theorem d1 : decode yB 1 = .ok (.aload_n 1, 1) := by decide +kernel
theorem d2 : decode yB 2 = .ok (.iconst 0, 1) := by decide +kernel
theorem d3 : decode yB 3 = .ok (.aload_n 1, 1) := by decide +kernel
theorem d4 : decode yB 4 = .ok (.arraylength, 1) := by decide +kernel
theorem d5 : decode yB 5 = .ok (.aconst_null, 1) := by decide +kernel
theorem d6 : decode yB 6 = .ok (.invokespecial 27, 3) := by decide +kernel
theorem d9 : decode yB 9 = .ok (.return_, 1) := by decide +kernel
def site : List Cond := [New4.tab] ++ initW "java/lang/String" 27 New4.yN
def tab : Cond := tabOf yN yB 2 none site
def P (a : Addr) (D : Cell) (fV fC : Field) (b : Addr) (A : Cell) (z : Int32) (args : Array Value) (s : State) : Prop := args = #[.ref a, .ref b] ∧ Blank "java/lang/String" a D s ∧ Found "java/lang/String" "value" "[B" fV s ∧ Found "java/lang/String" "coder" "B" fC s ∧ Ch b A s ∧ StaticIs s "java/lang/String" "COMPACT_STRINGS" "Z" (.int z) ∧ ¬ z = 0 ∧ 0 < A.slots.size ∧ A.slots.size ≤ 536870912 ∧ ∀ i, i < A.slots.size → ¬ 255 < cv A i
def E (a : Addr) (D : Cell) (fV fC : Field) (A : Cell) (r : Option Value) (s u : State) : Prop := Got a D fV fC A 0 A.slots.size r s u
/-- new String(chars), not empty, no char above 255: a Latin-1 String of their low bytes -/
theorem law (l : Launch) (a : Addr) (D : Cell) (fV fC : Field) (b : Addr) (A : Cell) (z : Int32) : Law l yN 2 1 3 52 yB 2 none site (P a D fV fC b A z) (E a D fV fC A) [⟨a, fC.slot⟩, ⟨a, fV.slot⟩] 1 A.slots.size := by
  refine Law.of_walk (plainFor_of_name (by decide +kernel)) (by decide +kernel) (by decide +kernel) (by decide) (fun _ _ h => by rw [h.1]; rfl) (fun _ U U' hal hh h => ⟨h.1, h.2.1.mv hal hh, h.2.2.1.al hal, h.2.2.2.1.al hal, h.2.2.2.2.1.mv hal hh, h.2.2.2.2.2.1.there hal hh, h.2.2.2.2.2.2⟩) (fun r U U' V V' h1 hal h2 h => Got.mv r U U' V V' h1 hal h2 h) ?_
  intro p e s m args below meth c s₁ X0 hexec hbytes hml hret hlk hnm hown hh0 W hP
  obtain ⟨rfl, hB, f1, f2, hA, s1, hz, l0, l2, hp⟩ := hP
  have c1 : Steps p.tables e below (s₁.setTop (entryFrame m #[.ref a, .ref b] 2)) (s₁.setTop (mkF m 0 #[.val (.ref a), .val (.ref b)] [])) := entry rfl
  have c2 : Steps p.tables e below (s₁.setTop (entryFrame m #[.ref a, .ref b] 2)) (s₁.setTop (mkF m 6 #[.val (.ref a), .val (.ref b)] [.null, .int (Int32.ofNat A.slots.size), .int 0, .ref b, .ref a])) := c1.trans (by
    refine XS.aloadN X0.here hexec rfl (hb hbytes d0) rfl rfl ?_
    refine XS.aloadN X0.here hexec rfl (hb hbytes d1) rfl rfl ?_
    refine iconstV X0.here hexec rfl 0 (hb hbytes d2) (by decide) ?_
    refine XS.aloadN X0.here hexec rfl (hb hbytes d3) rfl rfl ?_
    refine X0.alen hexec (hA.1.mv X0.warmed.alike hh0) rfl rfl (hb hbytes d4) ?_
    refine XS.aconstNull X0.here hexec rfl (hb hbytes d5) ?_
    exact Steps.refl _)
  obtain ⟨v3, T3, X3, E3, g3⟩ := X0.callN hexec (New4.law l a D fV fC b A z 0 A.slots.size) rfl hown (wks W (initW "java/lang/String" 27 New4.yN)) (W New4.tab (by simp only [site, List.mem_cons, List.mem_append, true_or, or_true])) (W := 0) (Nat.le_of_ble_eq_true rfl) (Nat.le_of_ble_eq_true rfl) (Nat.le_refl _) (by show 0 + A.slots.size ≤ A.slots.size; omega) (g := (mkF m 6 #[.val (.ref a), .val (.ref b)] [.null, .int (Int32.ofNat A.slots.size), .int (Int32.ofNat 0), .ref b, .ref a])) rfl (by rw [hml]; rfl) c2 (argsL := [.ref b, .int (Int32.ofNat 0), .int (Int32.ofNat A.slots.size), .null]) (rest := []) rfl rfl (by show 2 * 0 + 0 ≤ _; decide) (hb hbytes d6) (⟨rfl, hB.mv X0.warmed.alike hh0, f1.al X0.warmed.alike, f2.al X0.warmed.alike, hA.mv X0.warmed.alike hh0, s1.there X0.warmed.alike hh0, hz, l0, by omega, l2, fun i hi => by rw [Nat.zero_add]; exact hp i hi⟩)
  have e0 := Got.mv _ s₁ s _ _ hh0.symm (Vm.Alike.refl _) rfl E3
  obtain rfl := e0.1
  have c4 : Steps p.tables e below (s₁.setTop (entryFrame m #[.ref a, .ref b] 2)) (T3.setTop (mkF m 9 #[.val (.ref a), .val (.ref b)] [])) := g3
  exact ⟨T3, none, _, _, _, X3, by simp, rfl, by omega, (fun _ => rfl), e0, fun fs hl => c4.trans (X3.returnOut hexec hret (hb hbytes d9) hl)⟩
theorem pays {l : Launch} {R : Room} {p : Program} {e : Env} {below : List Frame} {s : State} {sargs : Array Value} {len W : Nat} (a : Addr) (D : Cell) (fV fC : Field) (b : Addr) (A : Cell) (z : Int32) (htab : tab.before sargs s = true) (hfr : 4 ≤ R.frames) (hlo : W + 65 ≤ R.locals) :
    Back l R p e below s sargs yN len W (fun A₁ a₁ => A₁.cells + 1 ≤ R.cells ∧ A₁.slots + A.slots.size ≤ R.slots ∧ P a D fV fC b A z a₁ A₁.U) (fun A₁ _ v₁ B₁ => E a D fV fC A v₁ A₁.U B₁.U ∧ B₁.locs = A₁.locs ++ [⟨a, fC.slot⟩, ⟨a, fV.slot⟩] ∧ B₁.cells = A₁.cells + 1 ∧ B₁.slots = A₁.slots + A.slots.size) :=
  (law l a D fV fC b A z).pays htab hfr (by omega)
end New1
/-- the byte, read back as charAt reads it, is the char -/
theorem lo8_mask {x : Int32} (h0 : ¬ x < 0) (h1 : ¬ 255 < x) : lo8 x &&& 255 = x := by
  have t : ∀ k : Fin 256, lo8 (Int32.ofNat k.val) &&& 255 = Int32.ofNat k.val := by decide +kernel
  rw [Int32.lt_iff_toInt_lt] at h0 h1
  have e0 : (0 : Int32).toInt = 0 := rfl
  have e1 : (255 : Int32).toInt = 255 := rfl
  obtain ⟨k, hk⟩ : ∃ k : Nat, x.toInt = k := ⟨x.toInt.toNat, by omega⟩
  have hx : x = Int32.ofNat k := Int32.toInt_inj.mp (by rw [hk, Int32.toInt_ofNat_small (by omega)])
  rw [hx]
  exact t ⟨k, by omega⟩
end StrChars
namespace StrChars.Road
open Jvm Sem ClassFile Op Lib Jvm.Stand Jvm.Free Jvm.Free.XT
open Jvm.Lib.Cold (StaticIs)
abbrev ST : String := "java/lang/String"
/-- every table word that New1's law asks, flat -/
abbrev words : List Jvm.Cond := [.code New1.yN New1.yB 2 none, .initialized ST, .methodLink ST 27 New4.yN, .instanceMethod New4.yN,
  .code New4.yN New4.yB 6 none, .fieldLink ST 38 ST "COMPACT_STRINGS" "Z", .laysFinal ST ST "value" "[B", .fieldLink ST 9 ST "value" "[B", .laysFinal ST ST "coder" "B", .fieldLink ST 15 ST "coder" "B",
  .methodLink ST 1 Lib.objectInit, .instanceMethod Lib.objectInit, .code Lib.objectInit ⟨#[0xb1]⟩ 1 none, .methodLink ST 177 Cmp3.yN, .static Cmp3.yN, .methodLink ST 47 CodL.yN, .static CodL.yN,
  .code Cmp3.yN Cmp3.yB 6 (some (.array .byte)), .initialized U16, .arrayClass .byte, .methodLink U16 115 Cmp5.yN, .static Cmp5.yN, .code Cmp5.yN Cmp5.yB 7 (some .int), .code CodL.yN CodL.yB 2 (some .byte)]
theorem tab_of {a : Array Value} {s : State} (h : ∀ w ∈ words, w.before a s = true) : New1.tab.before a s = true := by
  have h5 : Cmp5.tab.before a s = true := unparts (wk h (.code Cmp5.yN Cmp5.yB 7 (some .int))) (wks h (.initialized Cmp5.yN.cls :: Cmp5.site))
  have hc : CodL.tab.before a s = true := unparts (wk h (.code CodL.yN CodL.yB 2 (some .byte))) (wks h (.initialized CodL.yN.cls :: CodL.site))
  have q5 : ∀ w ∈ Cmp5.tab :: words, w.before a s = true := fun w hw => (List.mem_cons.mp hw).elim (fun e => e ▸ h5) (h w)
  have h3 : Cmp3.tab.before a s = true := unparts (wk q5 (.code Cmp3.yN Cmp3.yB 6 (some (.array .byte)))) (wks q5 (.initialized Cmp3.yN.cls :: Cmp3.site))
  have q3 : ∀ w ∈ Cmp3.tab :: CodL.tab :: words, w.before a s = true := fun w hw => (List.mem_cons.mp hw).elim (fun e => e ▸ h3) fun hw => (List.mem_cons.mp hw).elim (fun e => e ▸ hc) (h w)
  have h4 : New4.tab.before a s = true := unparts (wk q3 (.code New4.yN New4.yB 6 none)) (wks q3 (.initialized New4.yN.cls :: New4.site))
  have q4 : ∀ w ∈ New4.tab :: words, w.before a s = true := fun w hw => (List.mem_cons.mp hw).elim (fun e => e ▸ h4) (h w)
  exact unparts (wk q4 (.code New1.yN New1.yB 2 none)) (wks q4 (.initialized New1.yN.cls :: New1.site))
/-- the words ride from the start Z to the walk's own state -/
theorem moved {Z s : State} {a0 args : Array Value} (hZ : Z.Warmed39 s.vm) (hw : ∀ d ∈ words, d.before a0 Z = true) : ∀ d ∈ words, d.before args s = true := fun d hd => by
  have q := hw d hd
  have t : ∀ d ∈ words, d = .arrayClass .byte ∨ (d.onTables && d.keepsFace) = true := by decide +kernel
  rcases t d hd with rfl | t
  · exact RoadKit.mvA hZ q
  · exact RoadKit.mv hZ q t
/-- WHAT COMES BACK, over the tables of the start Z: h the heap at the call, h' behind it -/
def Q (Z : State) (x : Addr) (A : Cell) (h : Heap) (v : Option Value) (h' : Heap) (L : List Loc) : Prop := v = none ∧ (∀ y ∈ L, y.base = x) ∧ RoadKit.Keep h h' [x] ∧ h'.size = h.size + 1 ∧ RoadKit.Exa Z h' x ST ∧ RoadKit.Fld Z h' x ST "value" "[B" (.ref h.size) ∧ RoadKit.Fld Z h' x ST "coder" "B" (.int 0) ∧
  (∃ V : Cell, RoadKit.Arr Z h' h.size V .byte ∧ V.vm = .none ∧ Z.vm.findClass "[B" = some V.cls ∧ V.slots.size = A.slots.size ∧ ∀ j, j < A.slots.size → V.slots[j]? = some (.int (lo8 (cv A j)))) ∧
  ∀ (O n d : String) (w : Value), RoadKit.Fld Z h x O n d w → RoadKit.slotOf Z O n d ≠ RoadKit.slotOf Z ST "value" "[B" → RoadKit.slotOf Z O n d ≠ RoadKit.slotOf Z ST "coder" "B" → RoadKit.Fld Z h' x O n d w
/-- **new String(chars) AT A CALL, IN THE ROAD'S FORM**: for specialBack behind newO: x the fresh String, b the char[] with the cell A -/
theorem back {p : Program} {l : Launch} {e : Env} {R : Room} {s : State} {args : Array Value} {below : List Frame} {len W : Nat} {Z : State} {a0 : Array Value} {h : Heap} (hZ : Z.Warmed39 s.vm) (hw : ∀ d ∈ words, d.before a0 Z = true) {kI : Nat} (wi : (Jvm.Cond.instantiable ST kI).before a0 Z = true)
    {x b : Addr} {A : Cell} {z : Int32} {v0 c0 : Value} (E : RoadKit.Exa Z h x ST) (V : RoadKit.Fld Z h x ST "value" "[B" v0) (C : RoadKit.Fld Z h x ST "coder" "B" c0) (K : RoadKit.Arr Z h b A .char) (hty : Typed .char A) (S : RoadKit.Sta Z h ST "COMPACT_STRINGS" "Z" (.int z)) (hz : ¬ z = 0)
    (l0 : 0 < A.slots.size) (l2 : A.slots.size ≤ 536870912) (hp : ∀ i, i < A.slots.size → ¬ 255 < cv A i) (hfr : 4 ≤ R.frames) (hlo : W + 65 ≤ R.locals) :
    Back l R p e below s args New1.yN len W (fun P a => a = #[.ref x, .ref b] ∧ P.U.heap = h ∧ P.cells + 1 ≤ R.cells ∧ P.slots + A.slots.size ≤ R.slots)
      (fun P _ v B => ∃ L, Q Z x A h v B.U.heap L ∧ B.locs = P.locs ++ L ∧ B.cells = P.cells + 1 ∧ B.slots = P.slots + A.slots.size) := by
  intro m meth c P g ig mk a X hg hsize hdg hW hn hp'
  obtain ⟨rfl, rfl, r1, r2⟩ := hp'
  have al : Z.vm.Alike P.U.vm := hZ.alike.trans X.warmed.alike
  obtain ⟨D, cfV, kV, iV, fV, hD, gV, stV, knV, obV, asV, slV⟩ := id V
  obtain ⟨D', cfC, kC, iC, fC, hD', gC, stC, -, -, asC, slC⟩ := id C
  cases hD.symm.trans hD'
  obtain ⟨D2, kD, e1, e2, e3, e4, e5⟩ := id E
  cases hD.symm.trans e1
  obtain ⟨c2, k2, i1, i2, i3, -⟩ := Cond.instantiable_spec wi
  cases e2.symm.trans i1
  cases e3.symm.trans i2
  obtain ⟨kU, u1, u2⟩ := al.2.2 _ _ e3
  have hB : Blank ST x D P.U := ⟨hD, ⟨knV, fun q hq => by rw [hq] at obV; cases obV⟩, by rw [al.findClass]; exact e2, kU, u1, by rw [u2]; exact i3, by rw [u2]; exact e5 i3⟩
  have F1 : Found ST "value" "[B" fV P.U := ⟨SBG.found_only al ⟨cfV, kV, iV, gV⟩, stV⟩
  have F2 : Found ST "coder" "B" fC P.U := ⟨SBG.found_only al ⟨cfC, kC, iC, gC⟩, stC⟩
  have hA : Ch b A P.U := ⟨⟨K.1, State.isArrayOf_alike al K.2.1, K.2.2, by omega⟩, hty⟩
  have hS : StaticIs P.U ST "COMPACT_STRINGS" "Z" (.int z) := by
    obtain ⟨cfS, iS, kS, fS, st, cS, t1, t2, t3, t4, t5, t6, t7⟩ := S
    exact StaticIs.there (s := { Z with heap := P.U.heap }) ⟨cfS, iS, kS, fS, st, cS, t1, t2, t3, t4, t5, (fun q => by rw [q] at t6; cases t6), t7⟩ al rfl
  obtain ⟨v, B, X', ⟨⟨hv, E', V', q1, q2, q3, q4, q5, q6, q7, q8, q9, q10, q11⟩, hl, hc, hs⟩, st⟩ := New1.pays x D fV fC b A z (tab_of (moved hZ hw)) hfr hlo m meth c P g ig mk _ X hg hsize hdg hW hn ⟨r1, r2, rfl, hB, F1, F2, hA, hS, hz, l0, l2, hp⟩
  have al' : Z.vm.Alike B.U.vm := hZ.alike.trans X'.warmed.alike
  have hsz : E'.slots.size = D.slots.size := by
    obtain ⟨-, -, -, kB, w1, w2, w3⟩ := q1
    obtain ⟨kB', y1, y2⟩ := al'.2.2 _ _ e3
    rw [q2.2.1] at w1
    cases w1.symm.trans y1
    rw [w3, e5 i3, y2]
  refine ⟨v, B, X', ⟨_, ⟨hv, ?_, ⟨by omega, fun y cy hy hn' => q10 y cy (by simpa using hn') hy, fun y cy hy => ?_⟩, q11, ⟨E', _, q1.1, by rw [q2.2.1]; exact e2, by rw [q2.2.1]; exact e3, by rw [q2.1]; exact obV, fun _ => by rw [hsz]; exact e5 i3⟩,
    ⟨E', cfV, kV, iV, fV, q1.1, gV, stV, by rw [q2.1]; exact knV, by rw [q2.1]; exact obV, by rw [q2.2.1]; exact asV, q3⟩, ⟨E', cfC, kC, iC, fC, q1.1, gC, stC, by rw [q2.1]; exact knV, by rw [q2.1]; exact obV, by rw [q2.2.1]; exact asC, q4⟩,
    ⟨V', ⟨q5.1, State.isArrayOf_alike al'.symm q5.2.1, q5.2.2.1⟩, q6, by rw [← al'.findClass]; exact q7, q8, fun j hj => by have := q9 j hj; rwa [Nat.zero_add] at this⟩, fun O n d w F n1 n2 => ?_⟩, hl, hc, hs⟩, st⟩
  · intro y hy
    simp only [List.mem_cons, List.not_mem_nil, or_false] at hy
    rcases hy with rfl | rfl <;> rfl
  · by_cases q : y = x
    · subst q
      cases hD.symm.trans hy
      exact ⟨E', q1.1, q2.2.1, q2.1, hsz⟩
    · exact ⟨cy, q10 y cy q hy, rfl, rfl, rfl⟩
  · obtain ⟨D3, cf, k, i, f, g1, g2, g3, g4, g5, g6, g7⟩ := F
    cases hD.symm.trans g1
    simp only [RoadKit.slotOf, g2, gV, gC, Option.map_some, Option.getD_some] at n1 n2
    exact ⟨E', cf, k, i, f, q1.1, g2, g3, by rw [q2.1]; exact g4, by rw [q2.1]; exact g5, by rw [q2.2.1]; exact g6, by rw [q2.2.2 f.slot (by simp [n1, n2])]; exact g7⟩
end StrChars.Road
namespace StrChars.Road
open Jvm Sem ClassFile Op Lib Jvm.Stand Jvm.Free Jvm.Free.XT
/-- WHAT COMES BACK, the byte[] as a list of values -/
def QA (Z : State) (x : Addr) (zn : Int32) (cs : List Int32) (h : Heap) (v : Option Value) (h' : Heap) (L : List Loc) : Prop := v = none ∧ (∀ y ∈ L, y.base = x) ∧ RoadKit.Keep h h' [x] ∧ h'.size = h.size + 1 ∧ RoadKit.Exa Z h' x ST ∧ RoadKit.Fld Z h' x ST "value" "[B" (.ref h.size) ∧ RoadKit.Fld Z h' x ST "coder" "B" (.int 0) ∧
  (∃ kb, Z.vm.findClass "[B" = some kb ∧ RoadKit.Arv Z h' h.size kb .byte zn (cs.map fun c => .int (lo8 c)) (.int 0)) ∧
  ∀ (O n d : String) (w : Value), RoadKit.Fld Z h x O n d w → RoadKit.slotOf Z O n d ≠ RoadKit.slotOf Z ST "value" "[B" → RoadKit.slotOf Z O n d ≠ RoadKit.slotOf Z ST "coder" "B" → RoadKit.Fld Z h' x O n d w
/-- **new String(chars) AT A CALL, THE ARRAYS AS LISTS**: the char[] at b holds cs, not empty, no char above 255 -/
theorem backArv {p : Program} {l : Launch} {e : Env} {R : Room} {s : State} {args : Array Value} {below : List Frame} {len W : Nat} {Z : State} {a0 : Array Value} {h : Heap} (hZ : Z.Warmed39 s.vm) (hw : ∀ d ∈ words, d.before a0 Z = true) {kI : Nat} (wi : (Jvm.Cond.instantiable ST kI).before a0 Z = true)
    {x b : Addr} {k : ClassId} {zn z : Int32} {cs : List Int32} {dv v0 c0 : Value} (E : RoadKit.Exa Z h x ST) (V : RoadKit.Fld Z h x ST "value" "[B" v0) (C : RoadKit.Fld Z h x ST "coder" "B" c0) (K : RoadKit.Arv Z h b k .char zn (cs.map Value.int) dv) (S : RoadKit.Sta Z h ST "COMPACT_STRINGS" "Z" (.int z)) (hz : ¬ z = 0)
    (hlen : zn.toNatClampNeg = cs.length) (h0 : 0 < cs.length) (hbig : cs.length ≤ 536870912) (hall : ∀ c ∈ cs, ¬ 255 < c) (hfr : 4 ≤ R.frames) (hlo : W + 65 ≤ R.locals) :
    Back l R p e below s args New1.yN len W (fun P a => a = #[.ref x, .ref b] ∧ P.U.heap = h ∧ P.cells + 1 ≤ R.cells ∧ P.slots + cs.length ≤ R.slots)
      (fun P _ v B => ∃ L, QA Z x zn cs h v B.U.heap L ∧ B.locs = P.locs ++ L ∧ B.cells = P.cells + 1 ∧ B.slots = P.slots + cs.length) := by
  obtain ⟨A, K1, K2, K3, K4, K5, K6⟩ := K
  have e : A.slots.size = cs.length := K3.trans hlen
  have hat : ∀ (i : Nat) (hi : i < cs.length), A.slots[i]? = some (.int cs[i]) := fun i hi => by rw [K5 i (by omega)]; simp [List.getD_eq_getElem?_getD, hi]
  have hcv : ∀ (i : Nat) (hi : i < cs.length), cv A i = cs[i] := fun i hi => by unfold cv; rw [hat i hi]
  have hty : Typed .char A := fun i v hv => by
    have hi : i < A.slots.size := (Array.getElem?_eq_some_iff.mp hv).1
    have q := K5 i hi
    rw [hv] at q
    rw [Option.some.inj q]
    exact K6 i hi
  refine Back.mono (back hZ hw wi E V C K1 hty S hz (by omega) (by omega) (fun i hi => by rw [hcv i (by omega)]; exact hall _ (List.getElem_mem _)) hfr hlo) (fun P a hp => ⟨hp.1, hp.2.1, hp.2.2.1, by rw [e]; exact hp.2.2.2⟩) (fun P a v B hp hq => ?_)
  obtain ⟨L, ⟨q1, q2, q3, q4, q5, q6, q7, ⟨V', v1, v2, v3, v4, v5⟩, q9⟩, hl, hc, hs⟩ := hq
  refine ⟨L, ⟨q1, q2, q3, q4, q5, q6, q7, ⟨V'.cls, v3, V', v1, rfl, by rw [v4, e, hlen], K4, fun i hi => ?_, fun i hi => ?_⟩, q9⟩, hl, hc, by rw [hs, e]⟩
  · have hi' : i < cs.length := by omega
    rw [v5 i (by omega), hcv i hi']; simp [List.getD_eq_getElem?_getD, hi']
  · have hi' : i < cs.length := by omega
    simp only [List.getD_eq_getElem?_getD, List.getElem?_map, List.getElem?_eq_getElem hi', Option.map_some, Option.getD_some]
    exact fits_lo8 _
end StrChars.Road
namespace StrChars.Road
open Jvm Sem ClassFile Op Lib Jvm.Stand Jvm.Free Jvm.Free.XT
/-- WHAT COMES BACK, in the writer's own shape -/
def QV (Z : State) (x : Addr) (N : Int32) (bs : List Int32) (h : Heap) (n0 : Nat) (v : Option Value) (h' : Heap) (L : List Loc) : Prop := v = none ∧ RoadKit.Fr n0 L ∧ RoadKit.Keep h h' [x] ∧ RoadKit.Exa Z h' x ST ∧ RoadKit.Fld Z h' x ST "coder" "B" (.int 0) ∧
  ∃ (t : Addr) (kb : ClassId), n0 ≤ t ∧ h.size ≤ t ∧ ¬ t = x ∧ RoadKit.Fld Z h' x ST "value" "[B" (.ref t) ∧ RoadKit.Arv Z h' t kb .byte N (bs.map Value.int) (.int 0)
/-- **new String(chars) AT A CALL, FOR THE WRITER**: a char[] of n known ints, each 0 to 255 -/
theorem backV {p : Program} {l : Launch} {e : Env} {R : Room} {s : State} {args : Array Value} {below : List Frame} {len W : Nat} {Z : State} {a0 : Array Value} {h : Heap} (hZ : Z.Warmed39 s.vm) (hw : ∀ d ∈ words, d.before a0 Z = true) {kI : Nat} (wi : (Jvm.Cond.instantiable ST kI).before a0 Z = true)
    {x b : Addr} {kC : ClassId} {cs bs : List Int32} {d v0 c0 : Value} {z N : Int32} {n n0 : Nat} (hx0 : n0 ≤ x) (hh0 : n0 ≤ h.size) (E : RoadKit.Exa Z h x ST) (V : RoadKit.Fld Z h x ST "value" "[B" v0) (C : RoadKit.Fld Z h x ST "coder" "B" c0) (K : RoadKit.Arv Z h b kC .char N (cs.map Value.int) d) (S : RoadKit.Sta Z h ST "COMPACT_STRINGS" "Z" (.int z)) (hz : ¬ z = 0)
    (hn : cs.length = n) (hN : N = Int32.ofNat n) (l0 : 0 < n) (l2 : n ≤ 4000) (hp : ∀ c ∈ cs, ¬ c < 0 ∧ ¬ (255 : Int32) < c) (hb : bs = cs.map (fun c => c.toInt8.toInt32)) (hfr : 4 ≤ R.frames) (hlo : W + 65 ≤ R.locals) :
    Back l R p e below s args (⟨"java/lang/String", "<init>", "([C)V"⟩ : MethodName) len W (fun P a => a = #[.ref x, .ref b] ∧ P.U.heap = h ∧ P.cells + 1 ≤ R.cells ∧ P.slots + n ≤ R.slots)
      (fun P _ v B => ∃ L, QV Z x N bs h n0 v B.U.heap L ∧ B.locs = P.locs ++ L ∧ B.cells = P.cells + 1 ∧ B.slots = P.slots + n) := by
  subst hn hN hb
  refine Back.mono (backArv hZ hw wi E V C K S hz (n32 (by omega)) l0 (by omega) (fun c hc => (hp c hc).2) hfr hlo) (fun P a hp => hp) (fun P a v B hp hq => ?_)
  obtain ⟨L, ⟨q1, q2, q3, q4, q5, q6, q7, ⟨kb, v1, v2⟩, q9⟩, hl, hc, hs⟩ := hq
  exact ⟨L, ⟨q1, fun y hy => by rw [q2 y hy]; exact hx0, q3, q5, q7, h.size, kb, hh0, Nat.le_refl _, Nat.ne_of_gt E.lt, q6, by rw [List.map_map]; exact v2⟩, hl, hc, hs⟩
end StrChars.Road
namespace StrChars
open Jvm Sem ClassFile Op Lib Jvm.Stand Jvm.Free.XT Jvm.Free.ALB Jvm.Free.JM Jvm.Free
open Jvm.Lib.Cold (StaticIs)
def hi8 (x : Int32) : Int32 := lo8 (x >>> ((8 : Int32) &&& 31))
/-- what StringUTF16.getChar makes of two bytes -/
def pairCh (u v : Int32) : Int32 := (((u &&& 255) <<< ((0 : Int32) &&& 31)) ||| ((v &&& 255) <<< ((8 : Int32) &&& 31))).toUInt32.toUInt16.toUInt32.toInt32
theorem lo8_and (x : Int32) : (lo8 x &&& 255).toBitVec.toNat = x.toBitVec.toNat % 256 := by
  have h : (lo8 x).toBitVec = (x.toBitVec.signExtend 8).signExtend 32 := by rw [lo8, Int8.toBitVec_toInt32, Int32.toBitVec_toInt8]
  rw [Int32.toBitVec_and, BitVec.toNat_and, h]
  have e : ((x.toBitVec.signExtend 8).signExtend 32).toNat % 256 = x.toBitVec.toNat % 256 := by
    rw [BitVec.toNat_signExtend]
    have hlt := x.toBitVec.isLt
    simp only [BitVec.toNat_setWidth, BitVec.toNat_signExtend]
    split <;> split <;> omega
  rw [← e]
  exact Nat.and_two_pow_sub_one_eq_mod _ 8
theorem pair_says {c : Int32} (h0 : ¬ c < 0) (h1 : ¬ 65535 < c) : pairCh (lo8 c) (hi8 c) = c := by
  rw [Int32.lt_iff_toInt_lt] at h0 h1
  have e0 : (0 : Int32).toInt = 0 := rfl
  have e1 : (65535 : Int32).toInt = 65535 := rfl
  have hc : c.toInt = c.toBitVec.toNat := by
    have := c.toBitVec.isLt
    have e : c.toInt = c.toBitVec.toInt := rfl
    rw [e] at h0 h1
    rw [e]
    rw [BitVec.toInt_eq_toNat_cond] at h0 h1 ⊢
    split at h0 <;> split <;> omega
  have hn : c.toBitVec.toNat < 65536 := by omega
  have a1 := lo8_and c
  have a2 : (hi8 c &&& 255).toBitVec.toNat = c.toBitVec.toNat / 256 := by
    rw [hi8, lo8_and]
    have e : ((8 : Int32) &&& 31) = 8 := by decide
    rw [e, Int32.toBitVec_shiftRight]
    have e2 : ((8 : Int32).toBitVec.smod 32) = 8#32 := by decide
    rw [e2, BitVec.sshiftRight_eq', BitVec.toNat_sshiftRight_of_msb_false (by rw [BitVec.msb_eq_false_iff_two_mul_lt]; omega)]
    show c.toBitVec.toNat >>> 8 % 256 = _
    rw [Nat.shiftRight_eq_div_pow]
    omega
  unfold pairCh
  apply Int32.toBitVec_inj.mp
  apply BitVec.eq_of_toNat_eq
  have f0 : ((0 : Int32) &&& 31) = 0 := by decide
  have f8 : ((8 : Int32) &&& 31) = 8 := by decide
  rw [f0, f8]
  have g : (((lo8 c &&& 255) <<< (0 : Int32)) ||| ((hi8 c &&& 255) <<< (8 : Int32))).toBitVec.toNat = c.toBitVec.toNat := by
    rw [Int32.toBitVec_or, Int32.toBitVec_shiftLeft, Int32.toBitVec_shiftLeft]
    have s0 : ((0 : Int32).toBitVec.smod 32) = 0#32 := by decide
    have s8 : ((8 : Int32).toBitVec.smod 32) = 8#32 := by decide
    rw [s0, s8, BitVec.toNat_or]
    simp only [BitVec.shiftLeft_eq', BitVec.toNat_shiftLeft, a1, a2]
    show (c.toBitVec.toNat % 256) <<< 0 % 2 ^ 32 ||| (c.toBitVec.toNat / 256) <<< 8 % 2 ^ 32 = _
    rw [Nat.shiftLeft_zero, Nat.mod_eq_of_lt (show c.toBitVec.toNat % 256 < 2 ^ 32 by omega), Nat.mod_eq_of_lt (show (c.toBitVec.toNat / 256) <<< 8 < 2 ^ 32 by rw [Nat.shiftLeft_eq]; omega), Nat.or_comm, ← Nat.shiftLeft_add_eq_or_of_lt (by omega), Nat.shiftLeft_eq]
    omega
  show BitVec.toNat (((((lo8 c &&& 255) <<< (0 : Int32)) ||| ((hi8 c &&& 255) <<< (8 : Int32))).toBitVec.setWidth 16).setWidth 32) = _
  rw [BitVec.toNat_setWidth, BitVec.toNat_setWidth, g]
  omega
end StrChars
namespace StrChars
open Jvm Sem ClassFile Op Lib Jvm.Stand Jvm.Free.XT Jvm.Free.ALB Jvm.Free.JM Jvm.Free
open Jvm.Lib.Cold (StaticIs)
/-- the array's cell V codes the n chars f 0 .. f (n - 1) by the coder cd, as the JDK does: coder 1 just where some char is above 255 -/
def Cod (cd : Int32) (n : Nat) (f : Nat → Int32) (V : Cell) : Prop := (cd = 0 ∧ V.slots.size = n ∧ ∀ j, j < n → V.slots[j]? = some (.int (lo8 (f j))) ∧ ¬ 255 < f j) ∨ (cd = 1 ∧ V.slots.size = 2 * n ∧ (∀ j, j < n → V.slots[2 * j]? = some (.int (lo8 (f j))) ∧ V.slots[2 * j + 1]? = some (.int (hi8 (f j)))) ∧ ∃ j, j < n ∧ 255 < f j)
/-- **x is a String of the n chars f 0 .. f (n - 1)**, Latin-1 or UTF-16; its array at t has the cell V -/
def Txt (x t : Addr) (V : Cell) (cd : Int32) (n : Nat) (f : Nat → Int32) (U : State) : Prop := Exact "java/lang/String" x U ∧ Has x "java/lang/String" "value" "[B" (.ref t) U ∧ Has x "java/lang/String" "coder" "B" (.int cd) U ∧ XT.Arr .byte t V U ∧ Cod cd n f V ∧ ∀ j, j < n → ¬ f j < 0 ∧ ¬ 65535 < f j
theorem Txt.mv {x t : Addr} {V : Cell} {cd : Int32} {n : Nat} {f : Nat → Int32} {U U' : State} (h : Txt x t V cd n f U) (hal : U.vm.Alike U'.vm) (hh : U'.heap = U.heap) : Txt x t V cd n f U' := ⟨h.1.mv hal hh, h.2.1.mv hal hh, h.2.2.1.mv hal hh, h.2.2.2.1.mv hal hh, h.2.2.2.2⟩
end StrChars
namespace StrChars.Road
open Jvm Sem ClassFile Op Lib Jvm.Stand Jvm.Free Jvm.Free.XT
open Jvm.Lib.Cold (StaticIs)
theorem consq {a : Array Value} {s : State} {c : Jvm.Cond} {L : List Jvm.Cond} (h0 : c.before a s = true) (h : ∀ w ∈ L, w.before a s = true) : ∀ w ∈ c :: L, w.before a s = true := fun w hw => (List.mem_cons.mp hw).elim (fun e => e ▸ h0) (h w)
/-- the bytes of the chars cs, low before high -/
def wideBytes : List Int32 → List Value
  | [] => []
  | c :: cs => .int (lo8 c) :: .int (hi8 c) :: wideBytes cs
theorem wide_lo (d : Value) : ∀ (cs : List Int32) (j : Nat), j < cs.length → (wideBytes cs).getD (2 * j) d = .int (lo8 (cs.getD j 0))
  | [], j, h => absurd h (Nat.not_lt_zero j)
  | c :: cs, 0, _ => rfl
  | c :: cs, j + 1, h => by
    have q := wide_lo d cs j (by simpa using h)
    rw [show 2 * (j + 1) = 2 * j + 1 + 1 from by omega]
    simpa [wideBytes] using q
theorem wide_hi (d : Value) : ∀ (cs : List Int32) (j : Nat), j < cs.length → (wideBytes cs).getD (2 * j + 1) d = .int (hi8 (cs.getD j 0))
  | [], j, h => absurd h (Nat.not_lt_zero j)
  | c :: cs, 0, _ => rfl
  | c :: cs, j + 1, h => by
    have q := wide_hi d cs j (by simpa using h)
    rw [show 2 * (j + 1) + 1 = 2 * j + 1 + 1 + 1 from by omega]
    simpa [wideBytes] using q
theorem low_at (d : Value) (cs : List Int32) (j : Nat) (h : j < cs.length) : (cs.map fun c => Value.int (lo8 c)).getD j d = .int (lo8 (cs.getD j 0)) := by
  simp [List.getD_eq_getElem?_getD, h]
/-- an array of N2 bytes vs codes the chars cs by the coder cd -/
def CodA (cs : List Int32) (cd N2 : Int32) (vs : List Value) : Prop := (cd = 0 ∧ N2 = Int32.ofNat cs.length ∧ vs = (cs.map fun c => Value.int (lo8 c)) ∧ ∀ c ∈ cs, ¬ 255 < c) ∨ (cd = 1 ∧ N2 = Int32.ofNat (2 * cs.length) ∧ vs = wideBytes cs ∧ ∃ c ∈ cs, 255 < c)
theorem CodA.cod {cs : List Int32} {cd N2 : Int32} {vs : List Value} {V : Cell} (h : CodA cs cd N2 vs) (hn : 2 * cs.length < 2 ^ 31) (hs : V.slots.size = N2.toNatClampNeg) (hv : RoadKit.Has V vs (.int 0)) : Cod cd cs.length (fun j => cs.getD j 0) V := by
  rcases h with ⟨rfl, rfl, rfl, h⟩ | ⟨rfl, rfl, rfl, c, hc, hw⟩
  · rw [n32 (by omega)] at hs
    exact Or.inl ⟨rfl, hs, fun j hj => ⟨by rw [hv j (by omega), low_at _ _ _ hj], by
      have e : cs.getD j 0 = cs[j] := by simp [List.getD_eq_getElem?_getD, hj]
      show ¬ 255 < cs.getD j 0
      rw [e]; exact h _ (List.getElem_mem _)⟩⟩
  · rw [n32 (by omega)] at hs
    obtain ⟨j, hj, rfl⟩ := List.getElem_of_mem hc
    exact Or.inr ⟨rfl, hs, fun j hj => ⟨by rw [hv _ (by omega), wide_lo _ _ _ hj], by rw [hv _ (by omega), wide_hi _ _ _ hj]⟩, j, hj, by
      have e : cs.getD j 0 = cs[j] := by simp [List.getD_eq_getElem?_getD, hj]
      show 255 < cs.getD j 0
      rw [e]; exact hw⟩
/-- an object of exactly java/lang/String, its two fields found: as the laws ask it -/
theorem strObj {Z U : State} {a0 : Array Value} {kI : Nat} (wi : (Jvm.Cond.instantiable ST kI).before a0 Z = true) (al : Z.vm.Alike U.vm) {x : Addr} {v0 c0 : Value} (E : RoadKit.Exa Z U.heap x ST) (V : RoadKit.Fld Z U.heap x ST "value" "[B" v0) (C : RoadKit.Fld Z U.heap x ST "coder" "B" c0) :
    ∃ (D : Cell) (fV fC : Field), Blank ST x D U ∧ Found ST "value" "[B" fV U ∧ Found ST "coder" "B" fC U ∧ D.slots[fV.slot]? = some v0 ∧ D.slots[fC.slot]? = some c0 ∧ RoadKit.slotOf Z ST "value" "[B" = fV.slot ∧ RoadKit.slotOf Z ST "coder" "B" = fC.slot := by
  obtain ⟨D, cfV, kV, iV, fV, hD, gV, stV, knV, obV, asV, slV⟩ := V
  obtain ⟨D', cfC, kC, iC, fC, hD', gC, stC, -, -, asC, slC⟩ := C
  cases hD.symm.trans hD'
  obtain ⟨D2, kD, e1, e2, e3, e4, e5⟩ := E
  cases hD.symm.trans e1
  obtain ⟨c2, k2, i1, i2, i3, -⟩ := Cond.instantiable_spec wi
  cases e2.symm.trans i1
  cases e3.symm.trans i2
  obtain ⟨kU, u1, u2⟩ := al.2.2 _ _ e3
  exact ⟨D, fV, fC, ⟨hD, ⟨knV, fun q hq => by rw [hq] at obV; cases obV⟩, by rw [al.findClass]; exact e2, kU, u1, by rw [u2]; exact i3, by rw [u2]; exact e5 i3⟩, ⟨SBG.found_only al ⟨cfV, kV, iV, gV⟩, stV⟩, ⟨SBG.found_only al ⟨cfC, kC, iC, gC⟩, stC⟩, slV, slC, by simp [RoadKit.slotOf, gV], by simp [RoadKit.slotOf, gC]⟩
theorem sta_is {Z U : State} (al : Z.vm.Alike U.vm) {C n d : String} {v : Value} (S : RoadKit.Sta Z U.heap C n d v) : StaticIs U C n d v := by
  obtain ⟨cfS, iS, kS, fS, st, cS, t1, t2, t3, t4, t5, t6, t7⟩ := S
  exact StaticIs.there (s := { Z with heap := U.heap }) ⟨cfS, iS, kS, fS, st, cS, t1, t2, t3, t4, t5, (fun q => by rw [q] at t6; cases t6), t7⟩ al rfl
end StrChars.Road
namespace StrChars
open Jvm Sem ClassFile Op Lib Jvm.Stand Jvm.Free.XT Jvm.Free.ALB Jvm.Free.JM Jvm.Free
open Jvm.Lib.Cold (StaticIs)
/-- what place i of a byte[]'s cell holds -/
def yv (A : Cell) (i : Nat) : Int32 := match A.slots[i]? with | some (.int x) => x | _ => 0
theorem yv_get {a : Addr} {A : Cell} {U : State} (h : XT.Arr .byte a A U) (ht : Typed .byte A) {i : Nat} (hi : i < A.slots.size) : A.slots[i]? = some (.int (yv A i)) := by
  have e := Array.getElem?_eq_getElem hi
  have f := ht i _ e
  unfold yv; rw [e]
  generalize A.slots[i] = v at f
  cases v <;> simp [fits] at f ⊢
/-- the two arrays are equal, place for place -/
def EqC (A B : Cell) : Prop := A.slots.size = B.slots.size ∧ ∀ i, i < A.slots.size → yv A i = yv B i
/-- a boolean that says whether p -/
def Says01 (q : Prop) (r : Option Value) (s u : State) : Prop := ∃ v : Int32, r = some (.int v) ∧ u.heap = s.heap ∧ ((v = 1 ∧ q) ∨ (v = 0 ∧ ¬ q))
theorem Says01.mv {q : Prop} : ∀ r (U U' V V' : State), U'.heap = U.heap → V.vm.Alike V'.vm → V'.heap = V.heap → Says01 q r U V → Says01 q r U' V' :=
  fun r U U' V V' h1 _ h2 ⟨v, a, b, c⟩ => ⟨v, a, by rw [h1, h2]; exact b, c⟩
namespace LEq
def yN : MethodName := ⟨"java/lang/StringLatin1", "equals", "([B[B)Z"⟩
abbrev yB : ByteArray := jdk_43_method_13_code
theorem d0 : decode yB 0 = .ok (.aload_n 0, 1) := by decide +kernel
theorem d1 : decode yB 1 = .ok (.arraylength, 1) := by decide +kernel
theorem d2 : decode yB 2 = .ok (.aload_n 1, 1) := by decide +kernel
theorem d3 : decode yB 3 = .ok (.arraylength, 1) := by decide +kernel
theorem d4 : decode yB 4 = .ok (.if_icmp (.ne) 30, 3) := by decide +kernel
theorem d7 : decode yB 7 = .ok (.iconst 0, 1) := by decide +kernel
theorem d8 : decode yB 8 = .ok (.istore_n 2, 1) := by decide +kernel
theorem d9 : decode yB 9 = .ok (.iload_n 2, 1) := by decide +kernel
theorem d10 : decode yB 10 = .ok (.aload_n 0, 1) := by decide +kernel
theorem d11 : decode yB 11 = .ok (.arraylength, 1) := by decide +kernel
theorem d12 : decode yB 12 = .ok (.if_icmp (.ge) 20, 3) := by decide +kernel
theorem d15 : decode yB 15 = .ok (.aload_n 0, 1) := by decide +kernel
theorem d16 : decode yB 16 = .ok (.iload_n 2, 1) := by decide +kernel
theorem d17 : decode yB 17 = .ok (.baload, 1) := by decide +kernel
theorem d18 : decode yB 18 = .ok (.aload_n 1, 1) := by decide +kernel
theorem d19 : decode yB 19 = .ok (.iload_n 2, 1) := by decide +kernel
theorem d20 : decode yB 20 = .ok (.baload, 1) := by decide +kernel
theorem d21 : decode yB 21 = .ok (.if_icmp (.eq) 5, 3) := by decide +kernel
theorem d24 : decode yB 24 = .ok (.iconst 0, 1) := by decide +kernel
theorem d25 : decode yB 25 = .ok (.ireturn, 1) := by decide +kernel
theorem d26 : decode yB 26 = .ok (.iinc 2 1, 3) := by decide +kernel
theorem d29 : decode yB 29 = .ok (.goto (-20), 3) := by decide +kernel
theorem d32 : decode yB 32 = .ok (.iconst 1, 1) := by decide +kernel
theorem d33 : decode yB 33 = .ok (.ireturn, 1) := by decide +kernel
theorem d34 : decode yB 34 = .ok (.iconst 0, 1) := by decide +kernel
theorem d35 : decode yB 35 = .ok (.ireturn, 1) := by decide +kernel
def site : List Cond := []
def tab : Cond := tabOf yN yB 3 (some .boolean) site
def P (a : Addr) (A : Cell) (b : Addr) (B : Cell) (args : Array Value) (s : State) : Prop := args = #[.ref a, .ref b] ∧ XT.Arr .byte a A s ∧ Typed .byte A ∧ XT.Arr .byte b B s ∧ Typed .byte B
/-- whether two byte[] are equal, place for place -/
theorem law (l : Launch) (a : Addr) (A : Cell) (b : Addr) (B : Cell) : Law l yN 2 2 0 0 yB 3 (some .boolean) site (P a A b B) (Says01 (EqC A B)) [] 0 0 := by
  refine Law.of_walk (plainFor_of_name (by decide +kernel)) (by decide +kernel) (by decide +kernel) (by decide) (fun _ _ h => by rw [h.1]; rfl) (fun _ U U' hal hh h => ⟨h.1, h.2.1.mv hal hh, h.2.2.1, h.2.2.2.1.mv hal hh, h.2.2.2.2⟩) (fun r U U' V V' h1 hal h2 h => Says01.mv r U U' V V' h1 hal h2 h) ?_
  intro p e s m args below meth c s₁ X0 hexec hbytes hml hret hlk hnm hown hh0 W hP
  obtain ⟨rfl, hA, tA, hB, tB⟩ := hP
  have a31 := hA.2.2.2
  have b31 := hB.2.2.2
  have hA0 := hA.mv X0.warmed.alike hh0
  have hB0 := hB.mv X0.warmed.alike hh0
  have c1 : Steps p.tables e below (s₁.setTop (entryFrame m #[.ref a, .ref b] 3)) (s₁.setTop (mkF m 0 #[.val (.ref a), .val (.ref b), .unset] [])) := entry rfl
  have c2 : Steps p.tables e below (s₁.setTop (entryFrame m #[.ref a, .ref b] 3)) (s₁.setTop (mkF m 4 #[.val (.ref a), .val (.ref b), .unset] [.int (Int32.ofNat B.slots.size), .int (Int32.ofNat A.slots.size)])) := c1.trans (by
    refine XS.aloadN X0.here hexec rfl (hb hbytes d0) rfl rfl ?_
    refine X0.alen hexec hA0 rfl rfl (hb hbytes d1) ?_
    refine XS.aloadN X0.here hexec rfl (hb hbytes d2) rfl rfl ?_
    refine X0.alen hexec hB0 rfl rfl (hb hbytes d3) ?_
    exact Steps.refl _)
  by_cases hs : A.slots.size = B.slots.size
  · have c3 : Steps p.tables e below (s₁.setTop (entryFrame m #[.ref a, .ref b] 3)) (s₁.setTop (mkF m 9 #[.val (.ref a), .val (.ref b), .val (.int 0)] [])) := c2.trans (by
      refine XS.icmpNo X0.here hexec rfl (hb hbytes d4) rfl (ii_ne_f (by rw [hs])) ?_
      refine iconstV X0.here hexec rfl 0 (hb hbytes d7) (by decide) ?_
      refine XS.istoreN X0.here hexec rfl (hb hbytes d8) rfl rfl ?_
      exact Steps.refl _)
    have loop : ∀ (r i : Nat), i + r = A.slots.size → (∀ j, j < i → yv A j = yv B j) → Steps p.tables e below (s₁.setTop (entryFrame m #[.ref a, .ref b] 3)) (s₁.setTop (mkF m 9 #[.val (.ref a), .val (.ref b), .val (.int (Int32.ofNat i))] [])) → ∃ (pc : Nat) (Ls : Array Slot) (v : Int32), (pc = 25 ∨ pc = 33) ∧ ((v = 1 ∧ EqC A B) ∨ (v = 0 ∧ ¬ EqC A B)) ∧ Steps p.tables e below (s₁.setTop (entryFrame m #[.ref a, .ref b] 3)) (s₁.setTop (mkF m pc Ls [.int v])) := by
      intro r
      induction r with
      | zero =>
        intro i hi he cl
        exact ⟨33, _, 1, Or.inr rfl, Or.inl ⟨rfl, hs, fun j hj => he j (by omega)⟩, cl.trans (by
          refine XS.iloadN X0.here hexec rfl (hb hbytes d9) rfl ?_
          refine XS.aloadN X0.here hexec rfl (hb hbytes d10) rfl rfl ?_
          refine X0.alen hexec hA0 rfl rfl (hb hbytes d11) ?_
          refine XS.icmpYes X0.here hexec rfl (pc0 := 12) rfl (hb hbytes d12) rfl (ii_ge_t (nlt32 (by omega) (by omega))) (by decide) rfl ?_
          refine iconstV X0.here hexec rfl 1 (hb hbytes d32) (by decide) ?_
          exact Steps.refl _)⟩
      | succ r ih =>
        intro i hi he cl
        have c4 : Steps p.tables e below (s₁.setTop (entryFrame m #[.ref a, .ref b] 3)) (s₁.setTop (mkF m 21 #[.val (.ref a), .val (.ref b), .val (.int (Int32.ofNat i))] [.int (yv B i), .int (yv A i)])) := cl.trans (by
          refine XS.iloadN X0.here hexec rfl (hb hbytes d9) rfl ?_
          refine XS.aloadN X0.here hexec rfl (hb hbytes d10) rfl rfl ?_
          refine X0.alen hexec hA0 rfl rfl (hb hbytes d11) ?_
          refine XS.icmpNo X0.here hexec rfl (hb hbytes d12) rfl (ii_ge_f (lt32 (by omega) (by omega))) ?_
          refine XS.aloadN X0.here hexec rfl (hb hbytes d15) rfl rfl ?_
          refine XS.iloadN X0.here hexec rfl (hb hbytes d16) rfl ?_
          refine X0.aget hexec hA0 rfl (yv_get hA tA (i := i) (by omega)) rfl rfl (hb hbytes d17) ?_
          refine XS.aloadN X0.here hexec rfl (hb hbytes d18) rfl rfl ?_
          refine XS.iloadN X0.here hexec rfl (hb hbytes d19) rfl ?_
          refine X0.aget hexec hB0 rfl (yv_get hB tB (i := i) (by omega)) rfl rfl (hb hbytes d20) ?_
          exact Steps.refl _)
        by_cases hv : yv A i = yv B i
        · have c5 : Steps p.tables e below (s₁.setTop (entryFrame m #[.ref a, .ref b] 3)) (s₁.setTop (mkF m 9 #[.val (.ref a), .val (.ref b), .val (.int (Int32.ofNat i + 1))] [])) := c4.trans (by
            refine XS.icmpYes X0.here hexec rfl (pc0 := 21) rfl (hb hbytes d21) rfl (ii_eq_t hv) (by decide) rfl ?_
            refine iincV X0.here hexec rfl 1 (hb hbytes d26) (by decide) rfl rfl ?_
            refine XS.goto X0.here hexec rfl (pc0 := 29) rfl (hb hbytes d29) (by decide) rfl ?_
            exact Steps.refl _)
          rw [succ32] at c5
          exact ih (i + 1) (by omega) (fun j hj => by
            by_cases e : j = i
            · rw [e]; exact hv
            · exact he j (by omega)) c5
        · exact ⟨25, _, 0, Or.inl rfl, Or.inr ⟨rfl, fun q => hv (q.2 i (by omega))⟩, c4.trans (by
            refine XS.icmpNo X0.here hexec rfl (hb hbytes d21) rfl (ii_eq_f hv) ?_
            refine iconstV X0.here hexec rfl 0 (hb hbytes d24) (by decide) ?_
            exact Steps.refl _)⟩
    obtain ⟨pc, Ls, v, hpc, hv, cz⟩ := loop A.slots.size 0 (by omega) (fun j hj => absurd hj (Nat.not_lt_zero j)) c3
    have nv : narrow .boolean (.int v) = .int v := by rcases hv with ⟨rfl, -⟩ | ⟨rfl, -⟩ <;> rfl
    rcases hpc with rfl | rfl
    · exact ⟨s₁, some (.int v), _, _, _, X0, rfl, rfl, rfl, (fun h => by cases h), ⟨v, rfl, hh0, hv⟩, fun fs hl => cz.trans (X0.ireturnOut hexec hret nv (Or.inr (Or.inl rfl)) (hb hbytes d25) hl)⟩
    · exact ⟨s₁, some (.int v), _, _, _, X0, rfl, rfl, rfl, (fun h => by cases h), ⟨v, rfl, hh0, hv⟩, fun fs hl => cz.trans (X0.ireturnOut hexec hret nv (Or.inr (Or.inl rfl)) (hb hbytes d33) hl)⟩
  · have c3 : Steps p.tables e below (s₁.setTop (entryFrame m #[.ref a, .ref b] 3)) (s₁.setTop (mkF m 35 #[.val (.ref a), .val (.ref b), .unset] [.int 0])) := c2.trans (by
      refine XS.icmpYes X0.here hexec rfl (pc0 := 4) rfl (hb hbytes d4) rfl (ii_ne_t (ne32 a31 b31 hs)) (by decide) rfl ?_
      refine iconstV X0.here hexec rfl 0 (hb hbytes d34) (by decide) ?_
      exact Steps.refl _)
    exact ⟨s₁, some (.int 0), _, _, _, X0, rfl, rfl, rfl, (fun h => by cases h), ⟨0, rfl, hh0, Or.inr ⟨rfl, fun q => hs q.1⟩⟩, fun fs hl => c3.trans (X0.ireturnOut hexec hret rfl (Or.inr (Or.inl rfl)) (hb hbytes d35) hl)⟩
end LEq
theorem Cod.ty {cd : Int32} {n : Nat} {f : Nat → Int32} {V : Cell} (h : Cod cd n f V) : Typed .byte V := fun i v hv => by
  have hi : i < V.slots.size := (Array.getElem?_eq_some_iff.mp hv).1
  rcases h with ⟨-, k1, k2⟩ | ⟨-, k1, k2, -⟩
  · rw [(k2 i (by omega)).1] at hv; cases hv; exact fits_lo8 _
  · rcases Nat.mod_two_eq_zero_or_one i with e | e
    · obtain ⟨j, rfl⟩ : ∃ j, i = 2 * j := ⟨i / 2, by omega⟩
      rw [(k2 j (by omega)).1] at hv; cases hv; exact fits_lo8 _
    · obtain ⟨j, rfl⟩ : ∃ j, i = 2 * j + 1 := ⟨i / 2, by omega⟩
      rw [(k2 j (by omega)).2] at hv; cases hv; exact fits_lo8 _
/-- the same text -/
def SameT (n : Nat) (f : Nat → Int32) (k : Nat) (g : Nat → Int32) : Prop := n = k ∧ ∀ j, j < n → f j = g j
theorem lo8_inj {x y : Int32} (h0 : ¬ x < 0) (h1 : ¬ 255 < x) (k0 : ¬ y < 0) (k1 : ¬ 255 < y) (h : lo8 x = lo8 y) : x = y := by
  rw [← lo8_mask h0 h1, ← lo8_mask k0 k1, h]
/-- arrays coded by one coder are equal just where the texts are -/
theorem Cod.eqv {cd : Int32} {n k : Nat} {f g : Nat → Int32} {V V' : Cell} (h : Cod cd n f V) (h' : Cod cd k g V') (hf : ∀ j, j < n → ¬ f j < 0 ∧ ¬ 65535 < f j) (hg : ∀ j, j < k → ¬ g j < 0 ∧ ¬ 65535 < g j) : EqC V V' ↔ SameT n f k g := by
  have yvv : ∀ {W : Cell} {i : Nat} {x : Int32}, W.slots[i]? = some (.int x) → yv W i = x := fun q => by unfold yv; rw [q]
  rcases h with ⟨rfl, k1, k2⟩ | ⟨rfl, k1, k2, -⟩
  · rcases h' with ⟨-, m1, m2⟩ | ⟨e, -⟩
    · constructor
      · rintro ⟨e1, e2⟩
        refine ⟨by omega, fun j hj => ?_⟩
        have q := e2 j (by omega)
        rw [yvv (k2 j hj).1, yvv (m2 j (by omega)).1] at q
        exact lo8_inj (hf j hj).1 (k2 j hj).2 (hg j (by omega)).1 (m2 j (by omega)).2 q
      · rintro ⟨rfl, e2⟩
        refine ⟨by omega, fun j hj => ?_⟩
        rw [yvv (k2 j (by omega)).1, yvv (m2 j (by omega)).1, e2 j (by omega)]
    · exact absurd e (by decide)
  · rcases h' with ⟨e, -⟩ | ⟨-, m1, m2, -⟩
    · exact absurd e (by decide)
    · constructor
      · rintro ⟨e1, e2⟩
        refine ⟨by omega, fun j hj => ?_⟩
        have q1 := e2 (2 * j) (by omega)
        have q2 := e2 (2 * j + 1) (by omega)
        rw [yvv (k2 j hj).1, yvv (m2 j (by omega)).1] at q1
        rw [yvv (k2 j hj).2, yvv (m2 j (by omega)).2] at q2
        rw [← pair_says (hf j hj).1 (hf j hj).2, ← pair_says (hg j (by omega)).1 (hg j (by omega)).2, q1, q2]
      · rintro ⟨rfl, e2⟩
        refine ⟨by omega, fun i hi => ?_⟩
        rcases Nat.mod_two_eq_zero_or_one i with e | e
        · obtain ⟨j, rfl⟩ : ∃ j, i = 2 * j := ⟨i / 2, by omega⟩
          rw [yvv (k2 j (by omega)).1, yvv (m2 j (by omega)).1, e2 j (by omega)]
        · obtain ⟨j, rfl⟩ : ∃ j, i = 2 * j + 1 := ⟨i / 2, by omega⟩
          rw [yvv (k2 j (by omega)).2, yvv (m2 j (by omega)).2, e2 j (by omega)]
/-- two codings differ: so do the texts -/
theorem Cod.dif {cd cd' : Int32} {n k : Nat} {f g : Nat → Int32} {V V' : Cell} (h : Cod cd n f V) (h' : Cod cd' k g V') (hne : ¬ cd = cd') : ¬ SameT n f k g := by
  rintro ⟨rfl, e⟩
  rcases h with ⟨rfl, -, k2⟩ | ⟨rfl, -, -, j, hj, hw⟩
  · rcases h' with ⟨rfl, -⟩ | ⟨-, -, -, j, hj, hw⟩
    · exact hne rfl
    · exact (k2 j hj).2 (by rw [e j hj]; exact hw)
  · rcases h' with ⟨-, -, m2⟩ | ⟨rfl, -⟩
    · exact (m2 j hj).2 (by rw [← e j hj]; exact hw)
    · exact hne rfl
/-- an object of exactly C is an instance of C -/
theorem cinst {p : Program} {l : Launch} {e : Env} {R : Room} {s : State} {m : MethodId} {args : Array Value} {below : List Frame} {meth : Method} {c : Code} {T : State} {locs : List Loc} {cells slots : Nat} (X : Stand p l e R s m args below meth c T locs cells slots) (hexec : p.tables.exec = Jvm.exec) {own C : String} {index : Nat} (hown : s.vm.findClass own = some m.cls) (hlink : (Cond.classLink own index C).before args s = true) {a : Addr} (hE : Exact C a T)
    {g : JFrame} (hg : g.method = m) {rest : List Value} (hstack : g.stack = .ref a :: rest) (hdg : decode c.code g.pc = .ok (.instanceof index, 3)) :
    ∃ T', Stand p l e R s m args below meth c T' locs cells slots ∧ T'.heap = T.heap ∧ ∀ target, Steps p.tables e below (T'.setTop { g with pc := g.pc + 3, stack := .int 1 :: rest }) target → Steps p.tables e below (T.setTop g) target := by
  obtain ⟨cB, h1, D, h2, h3, h4⟩ := hE
  have h1' : s.vm.findClass C = some cB := by rw [← X.warmed.alike.findClass]; exact h1
  obtain ⟨vm', X', st⟩ := X.instanceofYes hexec hown hlink h2 h4 h1' (by rw [h3]; exact Jvm.Free.SB.assignable_self _ _) hg hstack hdg
  exact ⟨_, X', rfl, st⟩
theorem cself {p : Program} {l : Launch} {e : Env} {R : Room} {s : State} {m : MethodId} {args : Array Value} {below : List Frame} {meth : Method} {c : Code} {T : State} {locs : List Loc} {cells slots : Nat} (X : Stand p l e R s m args below meth c T locs cells slots) (hexec : p.tables.exec = Jvm.exec) {own C : String} {index : Nat} (hown : s.vm.findClass own = some m.cls) (hlink : (Cond.classLink own index C).before args s = true) {a : Addr} (hE : Exact C a T)
    {g : JFrame} (hg : g.method = m) {rest : List Value} (hstack : g.stack = .ref a :: rest) (hdg : decode c.code g.pc = .ok (.checkcast index, 3)) :
    ∃ T', Stand p l e R s m args below meth c T' locs cells slots ∧ T'.heap = T.heap ∧ ∀ target, Steps p.tables e below (T'.setTop { g with pc := g.pc + 3, stack := .ref a :: rest }) target → Steps p.tables e below (T.setTop g) target := by
  obtain ⟨cB, h1, D, h2, h3, h4⟩ := hE
  have h1' : s.vm.findClass C = some cB := by rw [← X.warmed.alike.findClass]; exact h1
  obtain ⟨vm', X', st⟩ := X.checkcastYes hexec hown hlink h2 h4 h1' (by rw [h3]; exact Jvm.Free.SB.assignable_self _ _) hg hstack hdg
  exact ⟨_, X', rfl, fun t h => st t (by rw [← hstack] at h; exact h)⟩
namespace SEq
def yN : MethodName := ⟨"java/lang/String", "equals", "(Ljava/lang/Object;)Z"⟩
abbrev yB : ByteArray := jdk_42_method_66_code
theorem d0 : decode yB 0 = .ok (.aload_n 0, 1) := by decide +kernel
theorem d1 : decode yB 1 = .ok (.aload_n 1, 1) := by decide +kernel
theorem d2 : decode yB 2 = .ok (.if_acmp (.ne) 5, 3) := by decide +kernel
theorem d5 : decode yB 5 = .ok (.iconst 1, 1) := by decide +kernel
theorem d6 : decode yB 6 = .ok (.ireturn, 1) := by decide +kernel
theorem d7 : decode yB 7 = .ok (.aload_n 1, 1) := by decide +kernel
theorem d8 : decode yB 8 = .ok (.instanceof 10, 3) := by decide +kernel
theorem d11 : decode yB 11 = .ok (.ifCond (.eq) 43, 3) := by decide +kernel
theorem d14 : decode yB 14 = .ok (.aload_n 1, 1) := by decide +kernel
theorem d15 : decode yB 15 = .ok (.checkcast 10, 3) := by decide +kernel
theorem d18 : decode yB 18 = .ok (.astore_n 2, 1) := by decide +kernel
theorem d19 : decode yB 19 = .ok (.getstatic 38, 3) := by decide +kernel
theorem d22 : decode yB 22 = .ok (.ifCond (.eq) 14, 3) := by decide +kernel
theorem d25 : decode yB 25 = .ok (.aload_n 0, 1) := by decide +kernel
theorem d26 : decode yB 26 = .ok (.getfield 15, 3) := by decide +kernel
theorem d29 : decode yB 29 = .ok (.aload_n 2, 1) := by decide +kernel
theorem d30 : decode yB 30 = .ok (.getfield 15, 3) := by decide +kernel
theorem d33 : decode yB 33 = .ok (.if_icmp (.ne) 21, 3) := by decide +kernel
theorem d36 : decode yB 36 = .ok (.aload_n 0, 1) := by decide +kernel
theorem d37 : decode yB 37 = .ok (.getfield 9, 3) := by decide +kernel
theorem d40 : decode yB 40 = .ok (.aload_n 2, 1) := by decide +kernel
theorem d41 : decode yB 41 = .ok (.getfield 9, 3) := by decide +kernel
theorem d44 : decode yB 44 = .ok (.invokestatic 541, 3) := by decide +kernel
theorem d47 : decode yB 47 = .ok (.ifCond (.eq) 7, 3) := by decide +kernel
theorem d50 : decode yB 50 = .ok (.iconst 1, 1) := by decide +kernel
theorem d51 : decode yB 51 = .ok (.goto 4, 3) := by decide +kernel
theorem d54 : decode yB 54 = .ok (.iconst 0, 1) := by decide +kernel
theorem d55 : decode yB 55 = .ok (.ireturn, 1) := by decide +kernel
def site : List Cond := [.classLink "java/lang/String" 10 "java/lang/String", .fieldLink "java/lang/String" 38 "java/lang/String" "COMPACT_STRINGS" "Z", .fieldLink "java/lang/String" 15 "java/lang/String" "coder" "B", .fieldLink "java/lang/String" 9 "java/lang/String" "value" "[B", LEq.tab] ++ staticW "java/lang/String" 541 LEq.yN
def tab : Cond := tabOf yN yB 3 (some .boolean) site
def P (x t : Addr) (V : Cell) (cd : Int32) (n : Nat) (f : Nat → Int32) (y t' : Addr) (V' : Cell) (cd' : Int32) (k : Nat) (g : Nat → Int32) (z : Int32) (args : Array Value) (s : State) : Prop := args = #[.ref x, .ref y] ∧ Txt x t V cd n f s ∧ Txt y t' V' cd' k g s ∧ StaticIs s "java/lang/String" "COMPACT_STRINGS" "Z" (.int z) ∧ ¬ z = 0
/-- equals(Object) of two Strings: whether the texts are the same -/
theorem law (l : Launch) (x t : Addr) (V : Cell) (cd : Int32) (n : Nat) (f : Nat → Int32) (y t' : Addr) (V' : Cell) (cd' : Int32) (k : Nat) (g : Nat → Int32) (z : Int32) : Law l yN 2 1 1 14 yB 3 (some .boolean) site (P x t V cd n f y t' V' cd' k g z) (Says01 (SameT n f k g)) [] 0 0 := by
  refine Law.of_walk (plainFor_of_name (by decide +kernel)) (by decide +kernel) (by decide +kernel) (by decide) (fun _ _ h => by rw [h.1]; rfl) (fun _ U U' hal hh h => ⟨h.1, h.2.1.mv hal hh, h.2.2.1.mv hal hh, h.2.2.2.1.there hal hh, h.2.2.2.2⟩) (fun r U U' V V' h1 hal h2 h => Says01.mv r U U' V V' h1 hal h2 h) ?_
  intro p e s m args below meth c s₁ X0 hexec hbytes hml hret hlk hnm hown hh0 W hP
  obtain ⟨rfl, hx, hy, s1, hz⟩ := hP
  have c1 : Steps p.tables e below (s₁.setTop (entryFrame m #[.ref x, .ref y] 3)) (s₁.setTop (mkF m 2 #[.val (.ref x), .val (.ref y), .unset] [.ref y, .ref x])) := Steps.trans (entry rfl) (by
    show Steps p.tables e below (s₁.setTop (mkF m 0 #[.val (.ref x), .val (.ref y), .unset] [])) _
    refine XS.aloadN X0.here hexec rfl (hb hbytes d0) rfl rfl ?_
    refine XS.aloadN X0.here hexec rfl (hb hbytes d1) rfl rfl ?_
    exact Steps.refl _)
  by_cases hxy : x = y
  · have c2 : Steps p.tables e below (s₁.setTop (entryFrame m #[.ref x, .ref y] 3)) (s₁.setTop (mkF m 6 #[.val (.ref x), .val (.ref y), .unset] [.int 1])) := c1.trans (by
      refine acmpNo X0.here hexec rfl (hb hbytes d2) rfl rfl rfl (by simp [acmp, hxy]) ?_
      refine iconstV X0.here hexec rfl 1 (hb hbytes d5) (by decide) ?_
      exact Steps.refl _)
    subst hxy
    have ec : cd = cd' := by
      obtain ⟨D, fd, a1, a2, a3⟩ := hx.2.2.1
      obtain ⟨D', fd', b1, b2, b3⟩ := hy.2.2.1
      cases a1.symm.trans b1
      obtain ⟨q1, q2, q3, q4⟩ := a2.1
      obtain ⟨r1, r2, r3, r4⟩ := b2.1
      cases q4.symm.trans r4
      cases a3.symm.trans b3; rfl
    have et : t = t' := by
      obtain ⟨D, fd, a1, a2, a3⟩ := hx.2.1
      obtain ⟨D', fd', b1, b2, b3⟩ := hy.2.1
      cases a1.symm.trans b1
      obtain ⟨q1, q2, q3, q4⟩ := a2.1
      obtain ⟨r1, r2, r3, r4⟩ := b2.1
      cases q4.symm.trans r4
      cases a3.symm.trans b3; rfl
    subst ec et
    have ev : V = V' := by cases hx.2.2.2.1.1.symm.trans hy.2.2.2.1.1; rfl
    subst ev
    have hs : SameT n f k g := (Cod.eqv hx.2.2.2.2.1 hy.2.2.2.2.1 hx.2.2.2.2.2 hy.2.2.2.2.2).mp ⟨rfl, fun _ _ => rfl⟩
    exact ⟨s₁, some (.int 1), _, _, _, X0, rfl, rfl, rfl, (fun h => by cases h), ⟨1, rfl, hh0, Or.inl ⟨rfl, hs⟩⟩, fun fs hl => c2.trans (X0.ireturnOut hexec hret rfl (Or.inr (Or.inl rfl)) (hb hbytes d6) hl)⟩
  · have c2 : Steps p.tables e below (s₁.setTop (entryFrame m #[.ref x, .ref y] 3)) (s₁.setTop (mkF m 8 #[.val (.ref x), .val (.ref y), .unset] [.ref y])) := c1.trans (by
      refine acmpYes X0.here hexec rfl (pc0 := 2) rfl (hb hbytes d2) rfl rfl rfl (by simp [acmp, hxy]) (by decide) rfl ?_
      refine XS.aloadN X0.here hexec rfl (hb hbytes d7) rfl rfl ?_
      exact Steps.refl _)
    obtain ⟨T3, X3, q3, st3⟩ := cinst X0 hexec hown (wk W (.classLink "java/lang/String" 10 "java/lang/String")) (hy.mv X0.warmed.alike hh0).1 (g := (mkF m 8 #[.val (.ref x), .val (.ref y), .unset] [.ref y])) rfl (rest := []) rfl (hb hbytes d8)
    have hh3 := q3.trans hh0
    have c4 : Steps p.tables e below (s₁.setTop (entryFrame m #[.ref x, .ref y] 3)) (T3.setTop (mkF m 15 #[.val (.ref x), .val (.ref y), .unset] [.ref y])) := (c2.trans (st3 _ (Steps.refl _))).trans (by
      refine XS.ifNo X3.here hexec rfl (hb hbytes d11) rfl (i0_eq_f (by decide)) ?_
      refine XS.aloadN X3.here hexec rfl (hb hbytes d14) rfl rfl ?_
      exact Steps.refl _)
    obtain ⟨T5, X5, q5, st5⟩ := cself X3 hexec hown (wk W (.classLink "java/lang/String" 10 "java/lang/String")) (hy.mv X3.warmed.alike hh3).1 (g := (mkF m 15 #[.val (.ref x), .val (.ref y), .unset] [.ref y])) rfl (rest := []) rfl (hb hbytes d15)
    have hh5 := q5.trans hh3
    have c6 : Steps p.tables e below (s₁.setTop (entryFrame m #[.ref x, .ref y] 3)) (T5.setTop (mkF m 19 #[.val (.ref x), .val (.ref y), .val (.ref y)] [])) := (c4.trans (st5 _ (Steps.refl _))).trans (by
      refine XS.astoreN X5.here hexec rfl (hb hbytes d18) rfl rfl rfl ?_
      exact Steps.refl _)
    obtain ⟨T7, X7, q7, st7⟩ := X5.sget hexec hown (wk W (.fieldLink "java/lang/String" 38 "java/lang/String" "COMPACT_STRINGS" "Z")) s1 (fun _ _ h => by rw [hh5]; exact h) (g := (mkF m 19 #[.val (.ref x), .val (.ref y), .val (.ref y)] [])) rfl (hb hbytes d19)
    have hh7 := q7.trans hh5
    have c8 : Steps p.tables e below (s₁.setTop (entryFrame m #[.ref x, .ref y] 3)) (T7.setTop (mkF m 26 #[.val (.ref x), .val (.ref y), .val (.ref y)] [.ref x])) := (c6.trans (st7 _ (Steps.refl _))).trans (by
      refine XS.ifNo X7.here hexec rfl (hb hbytes d22) rfl (i0_eq_f hz) ?_
      refine XS.aloadN X7.here hexec rfl (hb hbytes d25) rfl rfl ?_
      exact Steps.refl _)
    obtain ⟨T9, X9, q9, st9⟩ := X7.hget hexec hown (wk W (.fieldLink "java/lang/String" 15 "java/lang/String" "coder" "B")) (hx.mv X7.warmed.alike hh7).2.2.1 (g := (mkF m 26 #[.val (.ref x), .val (.ref y), .val (.ref y)] [.ref x])) rfl (rest := []) rfl (hb hbytes d26)
    have hh9 := q9.trans hh7
    have c10 : Steps p.tables e below (s₁.setTop (entryFrame m #[.ref x, .ref y] 3)) (T9.setTop (mkF m 30 #[.val (.ref x), .val (.ref y), .val (.ref y)] [.ref y, .int cd])) := (c8.trans (st9 _ (Steps.refl _))).trans (by
      refine XS.aloadN X9.here hexec rfl (hb hbytes d29) rfl rfl ?_
      exact Steps.refl _)
    obtain ⟨T11, X11, q11, st11⟩ := X9.hget hexec hown (wk W (.fieldLink "java/lang/String" 15 "java/lang/String" "coder" "B")) (hy.mv X9.warmed.alike hh9).2.2.1 (g := (mkF m 30 #[.val (.ref x), .val (.ref y), .val (.ref y)] [.ref y, .int cd])) rfl (rest := [.int cd]) rfl (hb hbytes d30)
    have hh11 := q11.trans hh9
    have c12 : Steps p.tables e below (s₁.setTop (entryFrame m #[.ref x, .ref y] 3)) (T11.setTop (mkF m 33 #[.val (.ref x), .val (.ref y), .val (.ref y)] [.int cd', .int cd])) := c10.trans (st11 _ (Steps.refl _))
    by_cases hcd : cd = cd'
    · subst hcd
      have c13 : Steps p.tables e below (s₁.setTop (entryFrame m #[.ref x, .ref y] 3)) (T11.setTop (mkF m 37 #[.val (.ref x), .val (.ref y), .val (.ref y)] [.ref x])) := c12.trans (by
        refine XS.icmpNo X11.here hexec rfl (hb hbytes d33) rfl (ii_ne_f rfl) ?_
        refine XS.aloadN X11.here hexec rfl (hb hbytes d36) rfl rfl ?_
        exact Steps.refl _)
      obtain ⟨T14, X14, q14, st14⟩ := X11.hget hexec hown (wk W (.fieldLink "java/lang/String" 9 "java/lang/String" "value" "[B")) (hx.mv X11.warmed.alike hh11).2.1 (g := (mkF m 37 #[.val (.ref x), .val (.ref y), .val (.ref y)] [.ref x])) rfl (rest := []) rfl (hb hbytes d37)
      have hh14 := q14.trans hh11
      have c15 : Steps p.tables e below (s₁.setTop (entryFrame m #[.ref x, .ref y] 3)) (T14.setTop (mkF m 41 #[.val (.ref x), .val (.ref y), .val (.ref y)] [.ref y, .ref t])) := (c13.trans (st14 _ (Steps.refl _))).trans (by
        refine XS.aloadN X14.here hexec rfl (hb hbytes d40) rfl rfl ?_
        exact Steps.refl _)
      obtain ⟨T16, X16, q16, st16⟩ := X14.hget hexec hown (wk W (.fieldLink "java/lang/String" 9 "java/lang/String" "value" "[B")) (hy.mv X14.warmed.alike hh14).2.1 (g := (mkF m 41 #[.val (.ref x), .val (.ref y), .val (.ref y)] [.ref y, .ref t])) rfl (rest := [.ref t]) rfl (hb hbytes d41)
      have hh16 := q16.trans hh14
      have c17 : Steps p.tables e below (s₁.setTop (entryFrame m #[.ref x, .ref y] 3)) (T16.setTop (mkF m 44 #[.val (.ref x), .val (.ref y), .val (.ref y)] [.ref t', .ref t])) := c15.trans (st16 _ (Steps.refl _))
      obtain ⟨v18, T18, X18, E18, g18⟩ := X16.callS hexec (LEq.law l t V t' V') hown (wks W (staticW "java/lang/String" 541 LEq.yN)) (wk W LEq.tab) (W := 0) (Nat.le_of_ble_eq_true rfl) (Nat.le_of_ble_eq_true rfl) (Nat.le_refl _) (Nat.le_refl _) (g := (mkF m 44 #[.val (.ref x), .val (.ref y), .val (.ref y)] [.ref t', .ref t])) rfl (by rw [hml]; rfl) c17 (argsL := [.ref t, .ref t']) (rest := []) rfl rfl (by show 2 * 0 + 0 ≤ _; decide) (hb hbytes d44) (⟨rfl, hx.2.2.2.1.mv X16.warmed.alike hh16, hx.2.2.2.2.1.ty, hy.2.2.2.1.mv X16.warmed.alike hh16, hy.2.2.2.2.1.ty⟩)
      obtain ⟨v, rfl, q18, hv⟩ := E18
      have iff := Cod.eqv hx.2.2.2.2.1 hy.2.2.2.2.1 hx.2.2.2.2.2 hy.2.2.2.2.2
      rcases hv with ⟨rfl, he⟩ | ⟨rfl, he⟩
      · have c19 : Steps p.tables e below (s₁.setTop (entryFrame m #[.ref x, .ref y] 3)) (T18.setTop (mkF m 55 #[.val (.ref x), .val (.ref y), .val (.ref y)] [.int 1])) := Steps.trans g18 (by
          refine XS.ifNo X18.here hexec rfl (hb hbytes d47) rfl (i0_eq_f (by decide)) ?_
          refine iconstV X18.here hexec rfl 1 (hb hbytes d50) (by decide) ?_
          refine XS.goto X18.here hexec rfl (pc0 := 51) rfl (hb hbytes d51) (by decide) rfl ?_
          exact Steps.refl _)
        exact ⟨T18, some (.int 1), _, _, _, X18, rfl, rfl, rfl, (fun h => by cases h), ⟨1, rfl, q18.trans hh16, Or.inl ⟨rfl, iff.mp he⟩⟩, fun fs hl => c19.trans (X18.ireturnOut hexec hret rfl (Or.inr (Or.inl rfl)) (hb hbytes d55) hl)⟩
      · have c19 : Steps p.tables e below (s₁.setTop (entryFrame m #[.ref x, .ref y] 3)) (T18.setTop (mkF m 55 #[.val (.ref x), .val (.ref y), .val (.ref y)] [.int 0])) := Steps.trans g18 (by
          refine XS.ifYes X18.here hexec rfl (pc0 := 47) rfl (hb hbytes d47) rfl (i0_eq_t rfl) (by decide) rfl ?_
          refine iconstV X18.here hexec rfl 0 (hb hbytes d54) (by decide) ?_
          exact Steps.refl _)
        exact ⟨T18, some (.int 0), _, _, _, X18, rfl, rfl, rfl, (fun h => by cases h), ⟨0, rfl, q18.trans hh16, Or.inr ⟨rfl, fun q => he (iff.mpr q)⟩⟩, fun fs hl => c19.trans (X18.ireturnOut hexec hret rfl (Or.inr (Or.inl rfl)) (hb hbytes d55) hl)⟩
    · have c13 : Steps p.tables e below (s₁.setTop (entryFrame m #[.ref x, .ref y] 3)) (T11.setTop (mkF m 55 #[.val (.ref x), .val (.ref y), .val (.ref y)] [.int 0])) := c12.trans (by
        refine XS.icmpYes X11.here hexec rfl (pc0 := 33) rfl (hb hbytes d33) rfl (ii_ne_t hcd) (by decide) rfl ?_
        refine iconstV X11.here hexec rfl 0 (hb hbytes d54) (by decide) ?_
        exact Steps.refl _)
      exact ⟨T11, some (.int 0), _, _, _, X11, rfl, rfl, rfl, (fun h => by cases h), ⟨0, rfl, hh11, Or.inr ⟨rfl, Cod.dif hx.2.2.2.2.1 hy.2.2.2.2.1 hcd⟩⟩, fun fs hl => c13.trans (X11.ireturnOut hexec hret rfl (Or.inr (Or.inl rfl)) (hb hbytes d55) hl)⟩
theorem pays {l : Launch} {R : Room} {p : Program} {e : Env} {below : List Frame} {s : State} {sargs : Array Value} {len W : Nat} (x t : Addr) (V : Cell) (cd : Int32) (n : Nat) (f : Nat → Int32) (y t' : Addr) (V' : Cell) (cd' : Int32) (k : Nat) (g : Nat → Int32) (z : Int32) (htab : tab.before sargs s = true) (hfr : 2 ≤ R.frames) (hlo : W + 28 ≤ R.locals) :
    Back l R p e below s sargs yN len W (fun A₁ a₁ => A₁.cells + 0 ≤ R.cells ∧ A₁.slots + 0 ≤ R.slots ∧ P x t V cd n f y t' V' cd' k g z a₁ A₁.U) (fun A₁ _ v₁ B₁ => Says01 (SameT n f k g) v₁ A₁.U B₁.U ∧ B₁.locs = A₁.locs ++ [] ∧ B₁.cells = A₁.cells + 0 ∧ B₁.slots = A₁.slots + 0) :=
  (law l x t V cd n f y t' V' cd' k g z).pays htab hfr (by omega)
end SEq
end StrChars
namespace StrChars.Road
open Jvm Sem ClassFile Op Lib Jvm.Stand Jvm.Free Jvm.Free.XT
open Jvm.Lib.Cold (StaticIs)
/-- the words of String.equals(Object) -/
abbrev wordsEq : List Jvm.Cond := [.code SEq.yN SEq.yB 3 (some .boolean), .initialized ST, .classLink ST 10 ST, .fieldLink ST 38 ST "COMPACT_STRINGS" "Z", .fieldLink ST 15 ST "coder" "B", .fieldLink ST 9 ST "value" "[B", .methodLink ST 541 LEq.yN, .static LEq.yN, .code LEq.yN LEq.yB 3 (some .boolean), .initialized "java/lang/StringLatin1"]
theorem tabEq_of {a : Array Value} {s : State} (h : ∀ w ∈ wordsEq, w.before a s = true) : SEq.tab.before a s = true := by
  have hl : LEq.tab.before a s = true := unparts (wk h (.code LEq.yN LEq.yB 3 (some .boolean))) (wks h (.initialized LEq.yN.cls :: LEq.site))
  have q := consq hl h
  exact unparts (wk q (.code SEq.yN SEq.yB 3 (some .boolean))) (wks q (.initialized SEq.yN.cls :: SEq.site))
theorem movedEq {Z s : State} {a0 args : Array Value} (hZ : Z.Warmed39 s.vm) (hw : ∀ d ∈ wordsEq, d.before a0 Z = true) : ∀ d ∈ wordsEq, d.before args s = true := fun d hd => by
  have t : ∀ d ∈ wordsEq, (d.onTables && d.keepsFace) = true := by decide +kernel
  exact RoadKit.mv hZ (hw d hd) (t d hd)
/-- the road's facts of a String, as the laws ask it -/
theorem txt_of {Z U : State} {a0 : Array Value} {kI : Nat} (wi : (Jvm.Cond.instantiable ST kI).before a0 Z = true) (al : Z.vm.Alike U.vm) {x t : Addr} {kb : ClassId} {cs : List Int32} {cd N2 : Int32} {vs : List Value} (E : RoadKit.Exa Z U.heap x ST) (V : RoadKit.Fld Z U.heap x ST "value" "[B" (.ref t)) (C : RoadKit.Fld Z U.heap x ST "coder" "B" (.int cd)) (K : RoadKit.Arv Z U.heap t kb .byte N2 vs (.int 0)) (hc : CodA cs cd N2 vs) (hb : ∀ c ∈ cs, ¬ c < 0 ∧ ¬ (65535 : Int32) < c) (l2 : cs.length ≤ 4000) :
    ∃ A, Txt x t A cd cs.length (fun j => cs.getD j 0) U := by
  obtain ⟨A, K1, K2, K3, K4, K5, K6⟩ := K
  have hcod := hc.cod (by omega) K3 K5
  obtain ⟨D, fV, fC, hB, F1, F2, g1, g2, -, -⟩ := strObj wi al E V C
  exact ⟨A, ⟨_, hB.2.2.1, D, hB.1, rfl, by cases q : D.vm <;> first | rfl | exact absurd q (hB.2.1.2 _)⟩, Has.of hB F1 g1, Has.of hB F2 g2, ⟨K1.1, State.isArrayOf_alike al K1.2.1, K1.2.2, by rcases hcod with ⟨-, q, -⟩ | ⟨-, q, -⟩ <;> omega⟩, hcod, fun j hj => by
    have e : cs.getD j 0 = cs[j] := by simp [List.getD_eq_getElem?_getD, hj]
    show ¬ cs.getD j 0 < 0 ∧ ¬ 65535 < cs.getD j 0
    rw [e]; exact hb _ (List.getElem_mem _)⟩
theorem same_list (cs ds : List Int32) : SameT cs.length (fun j => cs.getD j 0) ds.length (fun j => ds.getD j 0) ↔ cs = ds := by
  constructor
  · rintro ⟨e, q⟩
    refine List.ext_getElem e fun j h1 h2 => ?_
    have := q j h1
    simpa [List.getD_eq_getElem?_getD, h1, h2] using this
  · rintro rfl
    exact ⟨rfl, fun _ _ => rfl⟩
/-- **equals(Object) OF TWO SUCH STRINGS**: 1 just where the chars are the same -/
theorem eqW {p : Program} {l : Launch} {e : Env} {R : Room} {s : State} {args : Array Value} {below : List Frame} {len W : Nat} {Z : State} {a0 : Array Value} {h : Heap} (hZ : Z.Warmed39 s.vm) (hw : ∀ d ∈ wordsEq, d.before a0 Z = true) {kI : Nat} (wi : (Jvm.Cond.instantiable ST kI).before a0 Z = true)
    {x t : Addr} {kb : ClassId} {cs : List Int32} {cd N2 : Int32} {vs : List Value} (E : RoadKit.Exa Z h x ST) (V : RoadKit.Fld Z h x ST "value" "[B" (.ref t)) (C : RoadKit.Fld Z h x ST "coder" "B" (.int cd)) (K : RoadKit.Arv Z h t kb .byte N2 vs (.int 0)) (hc : CodA cs cd N2 vs) (hb : ∀ c ∈ cs, ¬ c < 0 ∧ ¬ (65535 : Int32) < c) (l2 : cs.length ≤ 4000)
    {y t' : Addr} {kb' : ClassId} {ds : List Int32} {cd' N2' : Int32} {vs' : List Value} (E' : RoadKit.Exa Z h y ST) (V' : RoadKit.Fld Z h y ST "value" "[B" (.ref t')) (C' : RoadKit.Fld Z h y ST "coder" "B" (.int cd')) (K' : RoadKit.Arv Z h t' kb' .byte N2' vs' (.int 0)) (hc' : CodA ds cd' N2' vs') (hb' : ∀ c ∈ ds, ¬ c < 0 ∧ ¬ (65535 : Int32) < c) (l2' : ds.length ≤ 4000)
    {z : Int32} (S : RoadKit.Sta Z h ST "COMPACT_STRINGS" "Z" (.int z)) (hz : ¬ z = 0) (hfr : 2 ≤ R.frames) (hlo : W + 28 ≤ R.locals) :
    Back l R p e below s args (⟨"java/lang/String", "equals", "(Ljava/lang/Object;)Z"⟩ : MethodName) len W (fun P a => a = #[.ref x, .ref y] ∧ P.U.heap = h ∧ P.cells + 0 ≤ R.cells ∧ P.slots + 0 ≤ R.slots)
      (fun P _ v B => ∃ L, (((v = some (.int 1) ∧ cs = ds) ∨ (v = some (.int 0) ∧ ¬ cs = ds)) ∧ L = [] ∧ B.U.heap = h) ∧ B.locs = P.locs ++ L ∧ B.cells = P.cells + 0 ∧ B.slots = P.slots + 0) := by
  intro m meth c P g ig mk a X hg hsize hdg hW hn hp'
  obtain ⟨rfl, rfl, r1, r2⟩ := hp'
  have al : Z.vm.Alike P.U.vm := hZ.alike.trans X.warmed.alike
  obtain ⟨A, hx⟩ := txt_of wi al E V C K hc hb l2
  obtain ⟨A', hy⟩ := txt_of wi al E' V' C' K' hc' hb' l2'
  obtain ⟨v, B, X', ⟨⟨w, hv, hh, hq⟩, hl, hk, hs⟩, st⟩ := SEq.pays x t A cd cs.length (fun j => cs.getD j 0) y t' A' cd' ds.length (fun j => ds.getD j 0) z (tabEq_of (movedEq hZ hw)) hfr hlo m meth c P g ig mk _ X hg hsize hdg hW hn ⟨r1, r2, rfl, hx, hy, sta_is al S, hz⟩
  refine ⟨v, B, X', ⟨[], ⟨?_, rfl, hh⟩, hl, hk, hs⟩, st⟩
  rcases hq with ⟨rfl, q⟩ | ⟨rfl, q⟩
  · exact Or.inl ⟨hv, (same_list cs ds).mp q⟩
  · exact Or.inr ⟨hv, fun e => q ((same_list cs ds).mpr e)⟩
end StrChars.Road
namespace StrChars.Road
open Jvm Sem ClassFile Op Lib Jvm.Stand Jvm.Free Jvm.Free.XT
open Jvm.Lib.Cold (StaticIs)
/-- what backV says of its String, as the contracts of this text ask it: cs's low bytes, coder 0 -/
theorem codOf {cs : List Int32} {n : Nat} (hn : cs.length = n) (hb : ∀ c ∈ cs, ¬ 255 < c) : CodA cs 0 (Int32.ofNat n) ((cs.map lo8).map Value.int) := Or.inl ⟨rfl, by rw [hn], by simp [List.map_map, Function.comp_def], hb⟩
end StrChars.Road
end Jvm.Pilot.@@N@@
namespace Jvm.Pilot.@@N@@
open Jvm Jvm.ClassFile Sem Op Lib Jvm.Free Jvm.Stand Jvm.LawKit Jvm.RoadKit Bundle Jvm.Pilot.@@N@@.Jvm.D
section OwnKit
variable {p : Program} {l : Launch} {e : Env} {R : Room} {s : State} {m : MethodId} {args : Array Value} {below : List Frame} {meth : Method} {c : Code} {T : State} {locs : List Loc} {cells slots : Nat} {Z : State} {a0 : Array Value} {h : Heap} {Φ : Outcome → State → Prop}
def own_ushr (x y : Int32) : Int32 := (x.toUInt32 >>> (y &&& 31).toUInt32).toInt32
def own_ushrL (x : Int64) (y : Int32) : Int64 := (x.toUInt64 >>> (y &&& 0x3f).toInt64.toUInt64).toInt64
def own_Ends (p : Program) (e : Env) (below : List Frame) (Φ : Outcome → State → Prop) (t : State) : Prop := ∃ s₂ o, Steps p.tables e below t s₂ ∧ s₂.status = .running ∧ Ended s₂ below o ∧ Φ o s₂
theorem own_via {t t' : State} (k : ∀ u, Steps p.tables e below t' u → Steps p.tables e below t u) (h : own_Ends p e below Φ t') : own_Ends p e below Φ t := by
  obtain ⟨s₂, o, h1, h2⟩ := h; exact ⟨s₂, o, k _ h1, h2⟩
theorem own_thru {t t' : State} (k : Steps p.tables e below t t') (h : own_Ends p e below Φ t') : own_Ends p e below Φ t := own_via (fun _ q => k.trans q) h
def own_Post (s : State) (Q : Option Value → Heap → List Loc → Prop) (kc ks : Nat) (o : Outcome) (U : State) : Prop := ∃ v L, o = .returned v ∧ Q v U.heap L ∧ FrameEnd s o U L kc ks
def own_Met (l : Launch) (y : MethodName) (bytes : ByteArray) (maxL : Nat) (ret : Option FieldType) (rm : Room) (Z : State) (as' : Array Value) (h0 : Heap) (Q : Option Value → Heap → List Loc → Prop) : Prop :=
  ∀ ws : List Jvm.Cond, MetFree l y (head1 (Jvm.Cond.code y bytes maxL ret :: ws) rm) (fun a U => a = as' ∧ Z.Warmed39 U.vm ∧ U.heap = h0) (fun _ _ _ _ _ => True) (fun _ U o U' => ∃ v L, o = .returned v ∧ Q v U'.heap L ∧ FrameEnd U o U' L rm.cells rm.slots)
theorem own_met {y : MethodName} {bytes : ByteArray} {maxL : Nat} {ret : Option FieldType} {rm : Room} {as' : Array Value} {h0 : Heap} {Q : Option Value → Heap → List Loc → Prop} (hp : plainFor y = true)
    (body : ∀ (p : Program) (e : Env) (s : State) (m : MethodId) (below : List Frame) (meth : Method) (c : Code) (T : State), p.tables.exec = Jvm.exec → c.code = bytes → c.maxLocals = maxL → Z.Warmed39 s.vm → s.vm.findClass y.cls = some m.cls → meth.name = y.name → meth.sig.returnType = ret → meth.locks = false →
      Stand p l e rm s m as' below meth c T [] 0 0 → T.heap = h0 → s.heap = h0 → own_Ends p e below (own_Post s Q rm.cells rm.slots) (T.setTop (entryFrame m as' maxL))) : own_Met l y bytes maxL ret rm Z as' h0 Q := by
  intro ws
  refine MetFree.of_bodySF hp hisR ?_
  intro p e s m args below meth c s₁ Bd hml0 hP hK
  obtain ⟨rfl, hZ, hh⟩ := hP
  exact body p e s m below meth c s₁ Bd.exec Bd.bytes hml0 hZ (findClass_of_methodNamed Bd.named) (name_of_methodNamed Bd.named Bd.method).1 Bd.returns (BodyLoose.notSynchronized Bd) (Stand.of_body Bd) (by rw [← hh, Bd.state]; rfl) hh
theorem own_oz {n0 : Nat} (O : Old Z n0 h) : n0 ≤ h.size := O.1 ▸ O.2.1
theorem own_entry {g g' : JFrame} (q : g = g') (h : own_Ends p e below Φ (T.setTop g')) : own_Ends p e below Φ (T.setTop g) := q ▸ h
theorem own_iloadN (X : Stand p l e R s m args below meth c T locs cells slots) (hx : p.tables.exec = Jvm.exec) {pc pc' : Nat} {Ls : Array Slot} {rest : List Value} {k : Fin 4} {v : Int32} (hd : decode c.code pc = .ok (.iload_n k, 1)) (hl : Ls[k.val]? = some (.val (.int v))) (hp : pc + 1 = pc') (h : own_Ends p e below Φ (T.setTop (mkF m pc' Ls (.int v :: rest)))) : own_Ends p e below Φ (T.setTop (mkF m pc Ls (rest))) := by
  subst hp; exact own_via (fun _ k => XS.iloadN X.here hx (g := mkF m pc Ls (rest)) rfl hd hl k) h
theorem own_lloadN (X : Stand p l e R s m args below meth c T locs cells slots) (hx : p.tables.exec = Jvm.exec) {pc pc' : Nat} {Ls : Array Slot} {rest : List Value} {k : Fin 4} {v : Int64} (hd : decode c.code pc = .ok (.lload_n k, 1)) (hl : Ls[k.val]? = some (.val (.long v))) (hp : pc + 1 = pc') (h : own_Ends p e below Φ (T.setTop (mkF m pc' Ls (.long v :: rest)))) : own_Ends p e below Φ (T.setTop (mkF m pc Ls (rest))) := by
  subst hp; exact own_via (fun _ k => XS.lloadN X.here hx (g := mkF m pc Ls (rest)) rfl hd hl k) h
theorem own_aloadN (X : Stand p l e R s m args below meth c T locs cells slots) (hx : p.tables.exec = Jvm.exec) {pc pc' : Nat} {Ls : Array Slot} {rest : List Value} {k : Fin 4} {v : Value} (hd : decode c.code pc = .ok (.aload_n k, 1)) (hl : Ls[k.val]? = some (.val v)) (hv : v.isRef = true) (hp : pc + 1 = pc') (h : own_Ends p e below Φ (T.setTop (mkF m pc' Ls (v :: rest)))) : own_Ends p e below Φ (T.setTop (mkF m pc Ls (rest))) := by
  subst hp; exact own_via (fun _ k => XS.aloadN X.here hx (g := mkF m pc Ls (rest)) rfl hd hl hv k) h
theorem own_istoreN (X : Stand p l e R s m args below meth c T locs cells slots) (hx : p.tables.exec = Jvm.exec) {pc pc' : Nat} {Ls : Array Slot} {rest : List Value} {k : Fin 4} {v : Int32} (Ls' : Array Slot) (hd : decode c.code pc = .ok (.istore_n k, 1)) (hl : storeLocals Ls k.val (.int v) = some Ls') (hp : pc + 1 = pc') (h : own_Ends p e below Φ (T.setTop (mkF m pc' Ls' (rest)))) : own_Ends p e below Φ (T.setTop (mkF m pc Ls (.int v :: rest))) := by
  subst hp; exact own_via (fun _ k => XS.istoreN X.here hx (g := mkF m pc Ls (.int v :: rest)) rfl hd rfl hl k) h
theorem own_lstoreN (X : Stand p l e R s m args below meth c T locs cells slots) (hx : p.tables.exec = Jvm.exec) {pc pc' : Nat} {Ls : Array Slot} {rest : List Value} {k : Fin 4} {v : Int64} (Ls' : Array Slot) (hd : decode c.code pc = .ok (.lstore_n k, 1)) (hl : storeLocals Ls k.val (.long v) = some Ls') (hp : pc + 1 = pc') (h : own_Ends p e below Φ (T.setTop (mkF m pc' Ls' (rest)))) : own_Ends p e below Φ (T.setTop (mkF m pc Ls (.long v :: rest))) := by
  subst hp; exact own_via (fun _ k => XS.lstoreN X.here hx (g := mkF m pc Ls (.long v :: rest)) rfl hd rfl hl k) h
theorem own_astoreN (X : Stand p l e R s m args below meth c T locs cells slots) (hx : p.tables.exec = Jvm.exec) {pc pc' : Nat} {Ls : Array Slot} {rest : List Value} {k : Fin 4} {v : Value} (Ls' : Array Slot) (hd : decode c.code pc = .ok (.astore_n k, 1)) (hv : v.isRef = true) (hl : storeLocals Ls k.val v = some Ls') (hp : pc + 1 = pc') (h : own_Ends p e below Φ (T.setTop (mkF m pc' Ls' (rest)))) : own_Ends p e below Φ (T.setTop (mkF m pc Ls (v :: rest))) := by
  subst hp; exact own_via (fun _ k => XS.astoreN X.here hx (g := mkF m pc Ls (v :: rest)) rfl hd rfl hv hl k) h
theorem own_iload (X : Stand p l e R s m args below meth c T locs cells slots) (hx : p.tables.exec = Jvm.exec) {pc pc' : Nat} {Ls : Array Slot} {rest : List Value} {k : Nat} {v : Int32} (hd : decode c.code pc = .ok (.iload k, 2)) (hl : Ls[k]? = some (.val (.int v))) (hp : pc + 2 = pc') (h : own_Ends p e below Φ (T.setTop (mkF m pc' Ls (.int v :: rest)))) : own_Ends p e below Φ (T.setTop (mkF m pc Ls (rest))) := by
  subst hp; exact own_via (fun _ k => XS.iload X.here hx (g := mkF m pc Ls (rest)) rfl hd hl k) h
theorem own_lload (X : Stand p l e R s m args below meth c T locs cells slots) (hx : p.tables.exec = Jvm.exec) {pc pc' : Nat} {Ls : Array Slot} {rest : List Value} {k : Nat} {v : Int64} (hd : decode c.code pc = .ok (.lload k, 2)) (hl : Ls[k]? = some (.val (.long v))) (hp : pc + 2 = pc') (h : own_Ends p e below Φ (T.setTop (mkF m pc' Ls (.long v :: rest)))) : own_Ends p e below Φ (T.setTop (mkF m pc Ls (rest))) := by
  subst hp; exact own_via (fun _ k => XS.lload X.here hx (g := mkF m pc Ls (rest)) rfl hd hl k) h
theorem own_aload (X : Stand p l e R s m args below meth c T locs cells slots) (hx : p.tables.exec = Jvm.exec) {pc pc' : Nat} {Ls : Array Slot} {rest : List Value} {k : Nat} {v : Value} (hd : decode c.code pc = .ok (.aload k, 2)) (hl : Ls[k]? = some (.val v)) (hv : v.isRef = true) (hp : pc + 2 = pc') (h : own_Ends p e below Φ (T.setTop (mkF m pc' Ls (v :: rest)))) : own_Ends p e below Φ (T.setTop (mkF m pc Ls (rest))) := by
  subst hp; exact own_via (fun _ k => XS.aload X.here hx (g := mkF m pc Ls (rest)) rfl hd hl hv k) h
theorem own_istore (X : Stand p l e R s m args below meth c T locs cells slots) (hx : p.tables.exec = Jvm.exec) {pc pc' : Nat} {Ls : Array Slot} {rest : List Value} {k : Nat} {v : Int32} (Ls' : Array Slot) (hd : decode c.code pc = .ok (.istore k, 2)) (hl : storeLocals Ls k (.int v) = some Ls') (hp : pc + 2 = pc') (h : own_Ends p e below Φ (T.setTop (mkF m pc' Ls' (rest)))) : own_Ends p e below Φ (T.setTop (mkF m pc Ls (.int v :: rest))) := by
  subst hp; exact own_via (fun _ k => XS.istore X.here hx (g := mkF m pc Ls (.int v :: rest)) rfl hd rfl hl k) h
theorem own_lstore (X : Stand p l e R s m args below meth c T locs cells slots) (hx : p.tables.exec = Jvm.exec) {pc pc' : Nat} {Ls : Array Slot} {rest : List Value} {k : Nat} {v : Int64} (Ls' : Array Slot) (hd : decode c.code pc = .ok (.lstore k, 2)) (hl : storeLocals Ls k (.long v) = some Ls') (hp : pc + 2 = pc') (h : own_Ends p e below Φ (T.setTop (mkF m pc' Ls' (rest)))) : own_Ends p e below Φ (T.setTop (mkF m pc Ls (.long v :: rest))) := by
  subst hp; exact own_via (fun _ k => XS.lstore X.here hx (g := mkF m pc Ls (.long v :: rest)) rfl hd rfl hl k) h
theorem own_astore (X : Stand p l e R s m args below meth c T locs cells slots) (hx : p.tables.exec = Jvm.exec) {pc pc' : Nat} {Ls : Array Slot} {rest : List Value} {k : Nat} {v : Value} (Ls' : Array Slot) (hd : decode c.code pc = .ok (.astore k, 2)) (hv : v.isRef = true) (hl : storeLocals Ls k v = some Ls') (hp : pc + 2 = pc') (h : own_Ends p e below Φ (T.setTop (mkF m pc' Ls' (rest)))) : own_Ends p e below Φ (T.setTop (mkF m pc Ls (v :: rest))) := by
  subst hp; exact own_via (fun _ k => XS.astore X.here hx (g := mkF m pc Ls (v :: rest)) rfl hd rfl hv hl k) h
theorem own_iconst (X : Stand p l e R s m args below meth c T locs cells slots) (hx : p.tables.exec = Jvm.exec) {pc pc' : Nat} {Ls : Array Slot} {rest : List Value} {i : Int} (v : Int32) (hd : decode c.code pc = .ok (.iconst i, 1)) (hv : Int32.ofInt i = v) (hp : pc + 1 = pc') (h : own_Ends p e below Φ (T.setTop (mkF m pc' Ls (.int v :: rest)))) : own_Ends p e below Φ (T.setTop (mkF m pc Ls rest)) := by
  subst hp hv; exact own_via (fun _ k => XS.iconst X.here hx (g := mkF m pc Ls rest) rfl hd k) h
theorem own_bipush (X : Stand p l e R s m args below meth c T locs cells slots) (hx : p.tables.exec = Jvm.exec) {pc pc' : Nat} {Ls : Array Slot} {rest : List Value} {i : Int} (v : Int32) (hd : decode c.code pc = .ok (.bipush i, 2)) (hv : (Int8.ofInt i).toInt32 = v) (hp : pc + 2 = pc') (h : own_Ends p e below Φ (T.setTop (mkF m pc' Ls (.int v :: rest)))) : own_Ends p e below Φ (T.setTop (mkF m pc Ls rest)) := by
  subst hp hv; exact own_via (fun _ k => XS.bipush X.here hx (g := mkF m pc Ls rest) rfl hd k) h
theorem own_sipush (X : Stand p l e R s m args below meth c T locs cells slots) (hx : p.tables.exec = Jvm.exec) {pc pc' : Nat} {Ls : Array Slot} {rest : List Value} {i : Int} (v : Int32) (hd : decode c.code pc = .ok (.sipush i, 3)) (hv : (Int16.ofInt i).toInt32 = v) (hp : pc + 3 = pc') (h : own_Ends p e below Φ (T.setTop (mkF m pc' Ls (.int v :: rest)))) : own_Ends p e below Φ (T.setTop (mkF m pc Ls rest)) := by
  subst hp hv; exact own_via (fun _ k => XS.sipush X.here hx (g := mkF m pc Ls rest) rfl hd k) h
theorem own_lconst (X : Stand p l e R s m args below meth c T locs cells slots) (hx : p.tables.exec = Jvm.exec) {pc pc' : Nat} {Ls : Array Slot} {rest : List Value} {i : Fin 2} (v : Int64) (hd : decode c.code pc = .ok (.lconst i, 1)) (hv : Int64.ofNat i = v) (hp : pc + 1 = pc') (h : own_Ends p e below Φ (T.setTop (mkF m pc' Ls (.long v :: rest)))) : own_Ends p e below Φ (T.setTop (mkF m pc Ls rest)) := by
  subst hp hv; exact own_via (fun _ k => XS.lconst X.here hx (g := mkF m pc Ls rest) rfl hd k) h
theorem own_aconst_null (X : Stand p l e R s m args below meth c T locs cells slots) (hx : p.tables.exec = Jvm.exec) {pc pc' : Nat} {Ls : Array Slot} {rest : List Value}  (hd : decode c.code pc = .ok (.aconst_null, 1))  (hp : pc + 1 = pc') (h : own_Ends p e below Φ (T.setTop (mkF m pc' Ls (.null :: rest)))) : own_Ends p e below Φ (T.setTop (mkF m pc Ls (rest))) := by
  subst hp; exact own_via (fun _ k => XS.aconstNull X.here hx (g := mkF m pc Ls (rest)) rfl hd  k) h
theorem own_iadd (X : Stand p l e R s m args below meth c T locs cells slots) (hx : p.tables.exec = Jvm.exec) {pc pc' : Nat} {Ls : Array Slot} {rest : List Value} {x y : Int32} (hd : decode c.code pc = .ok (.iadd, 1))  (hp : pc + 1 = pc') (h : own_Ends p e below Φ (T.setTop (mkF m pc' Ls (.int (x + y) :: rest)))) : own_Ends p e below Φ (T.setTop (mkF m pc Ls (.int y :: .int x :: rest))) := by
  subst hp; exact own_via (fun _ k => XS.iadd X.here hx (g := mkF m pc Ls (.int y :: .int x :: rest)) rfl hd rfl k) h
theorem own_isub (X : Stand p l e R s m args below meth c T locs cells slots) (hx : p.tables.exec = Jvm.exec) {pc pc' : Nat} {Ls : Array Slot} {rest : List Value} {x y : Int32} (hd : decode c.code pc = .ok (.isub, 1))  (hp : pc + 1 = pc') (h : own_Ends p e below Φ (T.setTop (mkF m pc' Ls (.int (x - y) :: rest)))) : own_Ends p e below Φ (T.setTop (mkF m pc Ls (.int y :: .int x :: rest))) := by
  subst hp; exact own_via (fun _ k => XS.isub X.here hx (g := mkF m pc Ls (.int y :: .int x :: rest)) rfl hd rfl k) h
theorem own_imul (X : Stand p l e R s m args below meth c T locs cells slots) (hx : p.tables.exec = Jvm.exec) {pc pc' : Nat} {Ls : Array Slot} {rest : List Value} {x y : Int32} (hd : decode c.code pc = .ok (.imul, 1))  (hp : pc + 1 = pc') (h : own_Ends p e below Φ (T.setTop (mkF m pc' Ls (.int (x * y) :: rest)))) : own_Ends p e below Φ (T.setTop (mkF m pc Ls (.int y :: .int x :: rest))) := by
  subst hp; exact own_via (fun _ k => XS.imul X.here hx (g := mkF m pc Ls (.int y :: .int x :: rest)) rfl hd rfl k) h
theorem own_iand (X : Stand p l e R s m args below meth c T locs cells slots) (hx : p.tables.exec = Jvm.exec) {pc pc' : Nat} {Ls : Array Slot} {rest : List Value} {x y : Int32} (hd : decode c.code pc = .ok (.iand, 1))  (hp : pc + 1 = pc') (h : own_Ends p e below Φ (T.setTop (mkF m pc' Ls (.int (x &&& y) :: rest)))) : own_Ends p e below Φ (T.setTop (mkF m pc Ls (.int y :: .int x :: rest))) := by
  subst hp; exact own_via (fun _ k => XS.iand X.here hx (g := mkF m pc Ls (.int y :: .int x :: rest)) rfl hd rfl k) h
theorem own_ior (X : Stand p l e R s m args below meth c T locs cells slots) (hx : p.tables.exec = Jvm.exec) {pc pc' : Nat} {Ls : Array Slot} {rest : List Value} {x y : Int32} (hd : decode c.code pc = .ok (.ior, 1))  (hp : pc + 1 = pc') (h : own_Ends p e below Φ (T.setTop (mkF m pc' Ls (.int (x ||| y) :: rest)))) : own_Ends p e below Φ (T.setTop (mkF m pc Ls (.int y :: .int x :: rest))) := by
  subst hp; exact own_via (fun _ k => XS.ior X.here hx (g := mkF m pc Ls (.int y :: .int x :: rest)) rfl hd rfl k) h
theorem own_ixor (X : Stand p l e R s m args below meth c T locs cells slots) (hx : p.tables.exec = Jvm.exec) {pc pc' : Nat} {Ls : Array Slot} {rest : List Value} {x y : Int32} (hd : decode c.code pc = .ok (.ixor, 1))  (hp : pc + 1 = pc') (h : own_Ends p e below Φ (T.setTop (mkF m pc' Ls (.int (x ^^^ y) :: rest)))) : own_Ends p e below Φ (T.setTop (mkF m pc Ls (.int y :: .int x :: rest))) := by
  subst hp; exact own_via (fun _ k => XS.ixor X.here hx (g := mkF m pc Ls (.int y :: .int x :: rest)) rfl hd rfl k) h
theorem own_ishl (X : Stand p l e R s m args below meth c T locs cells slots) (hx : p.tables.exec = Jvm.exec) {pc pc' : Nat} {Ls : Array Slot} {rest : List Value} {x y : Int32} (hd : decode c.code pc = .ok (.ishl, 1))  (hp : pc + 1 = pc') (h : own_Ends p e below Φ (T.setTop (mkF m pc' Ls (.int (x <<< (y &&& 31)) :: rest)))) : own_Ends p e below Φ (T.setTop (mkF m pc Ls (.int y :: .int x :: rest))) := by
  subst hp; exact own_via (fun _ k => XS.ishl X.here hx (g := mkF m pc Ls (.int y :: .int x :: rest)) rfl hd rfl k) h
theorem own_ishr (X : Stand p l e R s m args below meth c T locs cells slots) (hx : p.tables.exec = Jvm.exec) {pc pc' : Nat} {Ls : Array Slot} {rest : List Value} {x y : Int32} (hd : decode c.code pc = .ok (.ishr, 1))  (hp : pc + 1 = pc') (h : own_Ends p e below Φ (T.setTop (mkF m pc' Ls (.int (x >>> (y &&& 31)) :: rest)))) : own_Ends p e below Φ (T.setTop (mkF m pc Ls (.int y :: .int x :: rest))) := by
  subst hp; exact own_via (fun _ k => XS.ishr X.here hx (g := mkF m pc Ls (.int y :: .int x :: rest)) rfl hd rfl k) h
theorem own_iushr (X : Stand p l e R s m args below meth c T locs cells slots) (hx : p.tables.exec = Jvm.exec) {pc pc' : Nat} {Ls : Array Slot} {rest : List Value} {x y : Int32} (hd : decode c.code pc = .ok (.iushr, 1))  (hp : pc + 1 = pc') (h : own_Ends p e below Φ (T.setTop (mkF m pc' Ls (.int (own_ushr x y) :: rest)))) : own_Ends p e below Φ (T.setTop (mkF m pc Ls (.int y :: .int x :: rest))) := by
  subst hp; exact own_via (fun _ k => XS.iushr X.here hx (g := mkF m pc Ls (.int y :: .int x :: rest)) rfl hd rfl k) h
theorem own_ladd (X : Stand p l e R s m args below meth c T locs cells slots) (hx : p.tables.exec = Jvm.exec) {pc pc' : Nat} {Ls : Array Slot} {rest : List Value} {x y : Int64} (hd : decode c.code pc = .ok (.ladd, 1))  (hp : pc + 1 = pc') (h : own_Ends p e below Φ (T.setTop (mkF m pc' Ls (.long (x + y) :: rest)))) : own_Ends p e below Φ (T.setTop (mkF m pc Ls (.long y :: .long x :: rest))) := by
  subst hp; exact own_via (fun _ k => XS.ladd X.here hx (g := mkF m pc Ls (.long y :: .long x :: rest)) rfl hd rfl k) h
theorem own_lsub (X : Stand p l e R s m args below meth c T locs cells slots) (hx : p.tables.exec = Jvm.exec) {pc pc' : Nat} {Ls : Array Slot} {rest : List Value} {x y : Int64} (hd : decode c.code pc = .ok (.lsub, 1))  (hp : pc + 1 = pc') (h : own_Ends p e below Φ (T.setTop (mkF m pc' Ls (.long (x - y) :: rest)))) : own_Ends p e below Φ (T.setTop (mkF m pc Ls (.long y :: .long x :: rest))) := by
  subst hp; exact own_via (fun _ k => XS.lsub X.here hx (g := mkF m pc Ls (.long y :: .long x :: rest)) rfl hd rfl k) h
theorem own_lmul (X : Stand p l e R s m args below meth c T locs cells slots) (hx : p.tables.exec = Jvm.exec) {pc pc' : Nat} {Ls : Array Slot} {rest : List Value} {x y : Int64} (hd : decode c.code pc = .ok (.lmul, 1))  (hp : pc + 1 = pc') (h : own_Ends p e below Φ (T.setTop (mkF m pc' Ls (.long (x * y) :: rest)))) : own_Ends p e below Φ (T.setTop (mkF m pc Ls (.long y :: .long x :: rest))) := by
  subst hp; exact own_via (fun _ k => XS.lmul X.here hx (g := mkF m pc Ls (.long y :: .long x :: rest)) rfl hd rfl k) h
theorem own_land (X : Stand p l e R s m args below meth c T locs cells slots) (hx : p.tables.exec = Jvm.exec) {pc pc' : Nat} {Ls : Array Slot} {rest : List Value} {x y : Int64} (hd : decode c.code pc = .ok (.land, 1))  (hp : pc + 1 = pc') (h : own_Ends p e below Φ (T.setTop (mkF m pc' Ls (.long (x &&& y) :: rest)))) : own_Ends p e below Φ (T.setTop (mkF m pc Ls (.long y :: .long x :: rest))) := by
  subst hp; exact own_via (fun _ k => XS.land X.here hx (g := mkF m pc Ls (.long y :: .long x :: rest)) rfl hd rfl k) h
theorem own_lor (X : Stand p l e R s m args below meth c T locs cells slots) (hx : p.tables.exec = Jvm.exec) {pc pc' : Nat} {Ls : Array Slot} {rest : List Value} {x y : Int64} (hd : decode c.code pc = .ok (.lor, 1))  (hp : pc + 1 = pc') (h : own_Ends p e below Φ (T.setTop (mkF m pc' Ls (.long (x ||| y) :: rest)))) : own_Ends p e below Φ (T.setTop (mkF m pc Ls (.long y :: .long x :: rest))) := by
  subst hp; exact own_via (fun _ k => XS.lor X.here hx (g := mkF m pc Ls (.long y :: .long x :: rest)) rfl hd rfl k) h
theorem own_lxor (X : Stand p l e R s m args below meth c T locs cells slots) (hx : p.tables.exec = Jvm.exec) {pc pc' : Nat} {Ls : Array Slot} {rest : List Value} {x y : Int64} (hd : decode c.code pc = .ok (.lxor, 1))  (hp : pc + 1 = pc') (h : own_Ends p e below Φ (T.setTop (mkF m pc' Ls (.long (x ^^^ y) :: rest)))) : own_Ends p e below Φ (T.setTop (mkF m pc Ls (.long y :: .long x :: rest))) := by
  subst hp; exact own_via (fun _ k => XS.lxor X.here hx (g := mkF m pc Ls (.long y :: .long x :: rest)) rfl hd rfl k) h
theorem own_lshl (X : Stand p l e R s m args below meth c T locs cells slots) (hx : p.tables.exec = Jvm.exec) {pc pc' : Nat} {Ls : Array Slot} {rest : List Value} {x : Int64} {y : Int32} (hd : decode c.code pc = .ok (.lshl, 1))  (hp : pc + 1 = pc') (h : own_Ends p e below Φ (T.setTop (mkF m pc' Ls (.long (x <<< (y &&& 0x3f).toInt64) :: rest)))) : own_Ends p e below Φ (T.setTop (mkF m pc Ls (.int y :: .long x :: rest))) := by
  subst hp; exact own_via (fun _ k => XS.lshl X.here hx (g := mkF m pc Ls (.int y :: .long x :: rest)) rfl hd rfl k) h
theorem own_lshr (X : Stand p l e R s m args below meth c T locs cells slots) (hx : p.tables.exec = Jvm.exec) {pc pc' : Nat} {Ls : Array Slot} {rest : List Value} {x : Int64} {y : Int32} (hd : decode c.code pc = .ok (.lshr, 1))  (hp : pc + 1 = pc') (h : own_Ends p e below Φ (T.setTop (mkF m pc' Ls (.long (x >>> (y &&& 0x3f).toInt64) :: rest)))) : own_Ends p e below Φ (T.setTop (mkF m pc Ls (.int y :: .long x :: rest))) := by
  subst hp; exact own_via (fun _ k => XS.lshr X.here hx (g := mkF m pc Ls (.int y :: .long x :: rest)) rfl hd rfl k) h
theorem own_lushr (X : Stand p l e R s m args below meth c T locs cells slots) (hx : p.tables.exec = Jvm.exec) {pc pc' : Nat} {Ls : Array Slot} {rest : List Value} {x : Int64} {y : Int32} (hd : decode c.code pc = .ok (.lushr, 1))  (hp : pc + 1 = pc') (h : own_Ends p e below Φ (T.setTop (mkF m pc' Ls (.long (own_ushrL x y) :: rest)))) : own_Ends p e below Φ (T.setTop (mkF m pc Ls (.int y :: .long x :: rest))) := by
  subst hp; exact own_via (fun _ k => XS.lushr X.here hx (g := mkF m pc Ls (.int y :: .long x :: rest)) rfl hd rfl k) h
theorem own_idiv (X : Stand p l e R s m args below meth c T locs cells slots) (hx : p.tables.exec = Jvm.exec) {pc pc' : Nat} {Ls : Array Slot} {rest : List Value} {x y : Int32} (hd : decode c.code pc = .ok (.idiv, 1)) (hy : y ≠ 0) (hp : pc + 1 = pc') (h : own_Ends p e below Φ (T.setTop (mkF m pc' Ls (.int (x / y) :: rest)))) : own_Ends p e below Φ (T.setTop (mkF m pc Ls (.int y :: .int x :: rest))) := by
  subst hp; exact own_via (fun _ k => XS.idiv X.here hx (g := mkF m pc Ls (.int y :: .int x :: rest)) rfl hd rfl hy k) h
theorem own_irem (X : Stand p l e R s m args below meth c T locs cells slots) (hx : p.tables.exec = Jvm.exec) {pc pc' : Nat} {Ls : Array Slot} {rest : List Value} {x y : Int32} (hd : decode c.code pc = .ok (.irem, 1)) (hy : y ≠ 0) (hp : pc + 1 = pc') (h : own_Ends p e below Φ (T.setTop (mkF m pc' Ls (.int (x % y) :: rest)))) : own_Ends p e below Φ (T.setTop (mkF m pc Ls (.int y :: .int x :: rest))) := by
  subst hp; exact own_via (fun _ k => iremM X hx (g := mkF m pc Ls (.int y :: .int x :: rest)) rfl hd rfl hy k) h
theorem own_ineg (X : Stand p l e R s m args below meth c T locs cells slots) (hx : p.tables.exec = Jvm.exec) {pc pc' : Nat} {Ls : Array Slot} {rest : List Value} {x : Int32} (hd : decode c.code pc = .ok (.ineg, 1))  (hp : pc + 1 = pc') (h : own_Ends p e below Φ (T.setTop (mkF m pc' Ls (.int (-x) :: rest)))) : own_Ends p e below Φ (T.setTop (mkF m pc Ls (.int x :: rest))) := by
  subst hp; exact own_via (fun _ k => XS.ineg X.here hx (g := mkF m pc Ls (.int x :: rest)) rfl hd rfl k) h
theorem own_lneg (X : Stand p l e R s m args below meth c T locs cells slots) (hx : p.tables.exec = Jvm.exec) {pc pc' : Nat} {Ls : Array Slot} {rest : List Value} {x : Int64} (hd : decode c.code pc = .ok (.lneg, 1))  (hp : pc + 1 = pc') (h : own_Ends p e below Φ (T.setTop (mkF m pc' Ls (.long (-x) :: rest)))) : own_Ends p e below Φ (T.setTop (mkF m pc Ls (.long x :: rest))) := by
  subst hp; exact own_via (fun _ k => XS.lneg X.here hx (g := mkF m pc Ls (.long x :: rest)) rfl hd rfl k) h
theorem own_i2l (X : Stand p l e R s m args below meth c T locs cells slots) (hx : p.tables.exec = Jvm.exec) {pc pc' : Nat} {Ls : Array Slot} {rest : List Value} {x : Int32} (hd : decode c.code pc = .ok (.i2l, 1))  (hp : pc + 1 = pc') (h : own_Ends p e below Φ (T.setTop (mkF m pc' Ls (.long (x.toInt64) :: rest)))) : own_Ends p e below Φ (T.setTop (mkF m pc Ls (.int x :: rest))) := by
  subst hp; exact own_via (fun _ k => XS.i2l X.here hx (g := mkF m pc Ls (.int x :: rest)) rfl hd rfl k) h
theorem own_l2i (X : Stand p l e R s m args below meth c T locs cells slots) (hx : p.tables.exec = Jvm.exec) {pc pc' : Nat} {Ls : Array Slot} {rest : List Value} {x : Int64} (hd : decode c.code pc = .ok (.l2i, 1))  (hp : pc + 1 = pc') (h : own_Ends p e below Φ (T.setTop (mkF m pc' Ls (.int (x.toInt32) :: rest)))) : own_Ends p e below Φ (T.setTop (mkF m pc Ls (.long x :: rest))) := by
  subst hp; exact own_via (fun _ k => XS.l2i X.here hx (g := mkF m pc Ls (.long x :: rest)) rfl hd rfl k) h
theorem own_i2b (X : Stand p l e R s m args below meth c T locs cells slots) (hx : p.tables.exec = Jvm.exec) {pc pc' : Nat} {Ls : Array Slot} {rest : List Value} {x : Int32} (hd : decode c.code pc = .ok (.i2b, 1))  (hp : pc + 1 = pc') (h : own_Ends p e below Φ (T.setTop (mkF m pc' Ls (.int (x.toInt8.toInt32) :: rest)))) : own_Ends p e below Φ (T.setTop (mkF m pc Ls (.int x :: rest))) := by
  subst hp; exact own_via (fun _ k => XS.i2b X.here hx (g := mkF m pc Ls (.int x :: rest)) rfl hd rfl k) h
theorem own_i2c (X : Stand p l e R s m args below meth c T locs cells slots) (hx : p.tables.exec = Jvm.exec) {pc pc' : Nat} {Ls : Array Slot} {rest : List Value} {x : Int32} (hd : decode c.code pc = .ok (.i2c, 1))  (hp : pc + 1 = pc') (h : own_Ends p e below Φ (T.setTop (mkF m pc' Ls (.int (x.toUInt32.toUInt16.toUInt32.toInt32) :: rest)))) : own_Ends p e below Φ (T.setTop (mkF m pc Ls (.int x :: rest))) := by
  subst hp; exact own_via (fun _ k => XS.i2c X.here hx (g := mkF m pc Ls (.int x :: rest)) rfl hd rfl k) h
theorem own_i2s (X : Stand p l e R s m args below meth c T locs cells slots) (hx : p.tables.exec = Jvm.exec) {pc pc' : Nat} {Ls : Array Slot} {rest : List Value} {x : Int32} (hd : decode c.code pc = .ok (.i2s, 1))  (hp : pc + 1 = pc') (h : own_Ends p e below Φ (T.setTop (mkF m pc' Ls (.int (x.toInt16.toInt32) :: rest)))) : own_Ends p e below Φ (T.setTop (mkF m pc Ls (.int x :: rest))) := by
  subst hp; exact own_via (fun _ k => XS.i2s X.here hx (g := mkF m pc Ls (.int x :: rest)) rfl hd rfl k) h
theorem own_lcmp (X : Stand p l e R s m args below meth c T locs cells slots) (hx : p.tables.exec = Jvm.exec) {pc pc' : Nat} {Ls : Array Slot} {rest : List Value} {x y : Int64} (hd : decode c.code pc = .ok (.lcmp, 1))  (hp : pc + 1 = pc') (h : own_Ends p e below Φ (T.setTop (mkF m pc' Ls (.int (lcmpW x y) :: rest)))) : own_Ends p e below Φ (T.setTop (mkF m pc Ls (.long y :: .long x :: rest))) := by
  subst hp; exact own_via (fun _ k => XS.lcmp X.here hx (g := mkF m pc Ls (.long y :: .long x :: rest)) rfl hd rfl k) h
theorem own_dup (X : Stand p l e R s m args below meth c T locs cells slots) (hx : p.tables.exec = Jvm.exec) {pc pc' : Nat} {Ls : Array Slot} {rest : List Value} {x : Value} (hd : decode c.code pc = .ok (.dup, 1)) (hc : x.category = 1) (hp : pc + 1 = pc') (h : own_Ends p e below Φ (T.setTop (mkF m pc' Ls (x :: x :: rest)))) : own_Ends p e below Φ (T.setTop (mkF m pc Ls (x :: rest))) := by
  subst hp; exact own_via (fun _ k => XS.dup X.here hx (g := mkF m pc Ls (x :: rest)) rfl hd rfl hc k) h
theorem own_pop (X : Stand p l e R s m args below meth c T locs cells slots) (hx : p.tables.exec = Jvm.exec) {pc pc' : Nat} {Ls : Array Slot} {rest : List Value} {x : Value} (hd : decode c.code pc = .ok (.pop, 1)) (hc : x.category = 1) (hp : pc + 1 = pc') (h : own_Ends p e below Φ (T.setTop (mkF m pc' Ls (rest)))) : own_Ends p e below Φ (T.setTop (mkF m pc Ls (x :: rest))) := by
  subst hp; exact own_via (fun _ k => XS.pop X.here hx (g := mkF m pc Ls (x :: rest)) rfl hd rfl hc k) h
theorem own_dup_x1 (X : Stand p l e R s m args below meth c T locs cells slots) (hx : p.tables.exec = Jvm.exec) {pc pc' : Nat} {Ls : Array Slot} {rest : List Value} {x y : Value} (hd : decode c.code pc = .ok (.dup_x1, 1)) (hc : x.category = 1) (hc' : y.category = 1) (hp : pc + 1 = pc') (h : own_Ends p e below Φ (T.setTop (mkF m pc' Ls (x :: y :: x :: rest)))) : own_Ends p e below Φ (T.setTop (mkF m pc Ls (x :: y :: rest))) := by
  subst hp; exact own_via (fun _ k => XS.dupX1 X.here hx (g := mkF m pc Ls (x :: y :: rest)) rfl hd rfl hc hc' k) h
theorem own_iinc (X : Stand p l e R s m args below meth c T locs cells slots) (hx : p.tables.exec = Jvm.exec) {pc pc' : Nat} {Ls : Array Slot} {rest : List Value} {k : Nat} {cst : Int} {x : Int32} (Ls' : Array Slot) (hd : decode c.code pc = .ok (.iinc k cst, 3)) (hl : Ls[k]? = some (.val (.int x))) (hl' : storeLocals Ls k (.int (x + Int32.ofInt cst)) = some Ls') (hp : pc + 3 = pc') (h : own_Ends p e below Φ (T.setTop (mkF m pc' Ls' rest))) : own_Ends p e below Φ (T.setTop (mkF m pc Ls rest)) := by
  subst hp; exact own_via (fun _ k => XS.iinc X.here hx (g := mkF m pc Ls rest) rfl hd hl hl' k) h
theorem own_goto (X : Stand p l e R s m args below meth c T locs cells slots) (hx : p.tables.exec = Jvm.exec) {pc pc' : Nat} {Ls : Array Slot} {rest : List Value} {o : Int} (hd : decode c.code pc = .ok (.goto o, 3)) (ho : 0 ≤ (pc : Int) + o) (hp : ((pc : Int) + o).toNat = pc') (h : own_Ends p e below Φ (T.setTop (mkF m pc' Ls rest))) : own_Ends p e below Φ (T.setTop (mkF m pc Ls rest)) := own_via (fun _ k => XS.goto X.here hx (g := mkF m pc Ls rest) rfl (pc0 := pc) (pc' := pc') rfl hd ho hp k) h
theorem own_icmp_eq (X : Stand p l e R s m args below meth c T locs cells slots) (hx : p.tables.exec = Jvm.exec) {pc pcT pcF : Nat} {Ls : Array Slot} {rest : List Value} {x y : Int32} {o : Int} (hd : decode c.code pc = .ok (.if_icmp .eq o, 3)) (ho : 0 ≤ (pc : Int) + o) (hT : ((pc : Int) + o).toNat = pcT) (hF : pc + 3 = pcF) (kT : x = y → own_Ends p e below Φ (T.setTop (mkF m pcT Ls rest))) (kF : ¬ x = y → own_Ends p e below Φ (T.setTop (mkF m pcF Ls rest))) : own_Ends p e below Φ (T.setTop (mkF m pc Ls (.int y :: .int x :: rest))) := by
  subst hF; by_cases q : x = y
  · exact own_via (fun _ k => XS.icmpYes X.here hx (g := mkF m pc Ls (.int y :: .int x :: rest)) rfl (pc0 := pc) (pc' := pcT) rfl hd rfl (teq q).1 ho hT k) (kT q)
  · exact own_via (fun _ k => XS.icmpNo X.here hx (g := mkF m pc Ls (.int y :: .int x :: rest)) rfl hd rfl (feq q).1 k) (kF q)
theorem own_if_eq (X : Stand p l e R s m args below meth c T locs cells slots) (hx : p.tables.exec = Jvm.exec) {pc pcT pcF : Nat} {Ls : Array Slot} {rest : List Value} {x : Int32} {o : Int} (hd : decode c.code pc = .ok (.ifCond .eq o, 3)) (ho : 0 ≤ (pc : Int) + o) (hT : ((pc : Int) + o).toNat = pcT) (hF : pc + 3 = pcF) (kT : x = (0 : Int32) → own_Ends p e below Φ (T.setTop (mkF m pcT Ls rest))) (kF : ¬ x = (0 : Int32) → own_Ends p e below Φ (T.setTop (mkF m pcF Ls rest))) : own_Ends p e below Φ (T.setTop (mkF m pc Ls (.int x :: rest))) := by
  subst hF; by_cases q : x = (0 : Int32)
  · exact own_via (fun _ k => XS.ifYes X.here hx (g := mkF m pc Ls (.int x :: rest)) rfl (pc0 := pc) (pc' := pcT) rfl hd rfl ((if0 _ _).trans (teq q).1) ho hT k) (kT q)
  · exact own_via (fun _ k => XS.ifNo X.here hx (g := mkF m pc Ls (.int x :: rest)) rfl hd rfl ((if0 _ _).trans (feq q).1) k) (kF q)
theorem own_icmp_ne (X : Stand p l e R s m args below meth c T locs cells slots) (hx : p.tables.exec = Jvm.exec) {pc pcT pcF : Nat} {Ls : Array Slot} {rest : List Value} {x y : Int32} {o : Int} (hd : decode c.code pc = .ok (.if_icmp .ne o, 3)) (ho : 0 ≤ (pc : Int) + o) (hT : ((pc : Int) + o).toNat = pcT) (hF : pc + 3 = pcF) (kT : ¬ x = y → own_Ends p e below Φ (T.setTop (mkF m pcT Ls rest))) (kF : x = y → own_Ends p e below Φ (T.setTop (mkF m pcF Ls rest))) : own_Ends p e below Φ (T.setTop (mkF m pc Ls (.int y :: .int x :: rest))) := by
  subst hF; by_cases q : x = y
  · exact own_via (fun _ k => XS.icmpNo X.here hx (g := mkF m pc Ls (.int y :: .int x :: rest)) rfl hd rfl (teq q).2 k) (kF q)
  · exact own_via (fun _ k => XS.icmpYes X.here hx (g := mkF m pc Ls (.int y :: .int x :: rest)) rfl (pc0 := pc) (pc' := pcT) rfl hd rfl (feq q).2 ho hT k) (kT q)
theorem own_if_ne (X : Stand p l e R s m args below meth c T locs cells slots) (hx : p.tables.exec = Jvm.exec) {pc pcT pcF : Nat} {Ls : Array Slot} {rest : List Value} {x : Int32} {o : Int} (hd : decode c.code pc = .ok (.ifCond .ne o, 3)) (ho : 0 ≤ (pc : Int) + o) (hT : ((pc : Int) + o).toNat = pcT) (hF : pc + 3 = pcF) (kT : ¬ x = (0 : Int32) → own_Ends p e below Φ (T.setTop (mkF m pcT Ls rest))) (kF : x = (0 : Int32) → own_Ends p e below Φ (T.setTop (mkF m pcF Ls rest))) : own_Ends p e below Φ (T.setTop (mkF m pc Ls (.int x :: rest))) := by
  subst hF; by_cases q : x = (0 : Int32)
  · exact own_via (fun _ k => XS.ifNo X.here hx (g := mkF m pc Ls (.int x :: rest)) rfl hd rfl ((if0 _ _).trans (teq q).2) k) (kF q)
  · exact own_via (fun _ k => XS.ifYes X.here hx (g := mkF m pc Ls (.int x :: rest)) rfl (pc0 := pc) (pc' := pcT) rfl hd rfl ((if0 _ _).trans (feq q).2) ho hT k) (kT q)
theorem own_icmp_lt (X : Stand p l e R s m args below meth c T locs cells slots) (hx : p.tables.exec = Jvm.exec) {pc pcT pcF : Nat} {Ls : Array Slot} {rest : List Value} {x y : Int32} {o : Int} (hd : decode c.code pc = .ok (.if_icmp .lt o, 3)) (ho : 0 ≤ (pc : Int) + o) (hT : ((pc : Int) + o).toNat = pcT) (hF : pc + 3 = pcF) (kT : x < y → own_Ends p e below Φ (T.setTop (mkF m pcT Ls rest))) (kF : ¬ x < y → own_Ends p e below Φ (T.setTop (mkF m pcF Ls rest))) : own_Ends p e below Φ (T.setTop (mkF m pc Ls (.int y :: .int x :: rest))) := by
  subst hF; by_cases q : x < y
  · exact own_via (fun _ k => XS.icmpYes X.here hx (g := mkF m pc Ls (.int y :: .int x :: rest)) rfl (pc0 := pc) (pc' := pcT) rfl hd rfl (tlt q).1 ho hT k) (kT q)
  · exact own_via (fun _ k => XS.icmpNo X.here hx (g := mkF m pc Ls (.int y :: .int x :: rest)) rfl hd rfl (flt q).1 k) (kF q)
theorem own_if_lt (X : Stand p l e R s m args below meth c T locs cells slots) (hx : p.tables.exec = Jvm.exec) {pc pcT pcF : Nat} {Ls : Array Slot} {rest : List Value} {x : Int32} {o : Int} (hd : decode c.code pc = .ok (.ifCond .lt o, 3)) (ho : 0 ≤ (pc : Int) + o) (hT : ((pc : Int) + o).toNat = pcT) (hF : pc + 3 = pcF) (kT : x < (0 : Int32) → own_Ends p e below Φ (T.setTop (mkF m pcT Ls rest))) (kF : ¬ x < (0 : Int32) → own_Ends p e below Φ (T.setTop (mkF m pcF Ls rest))) : own_Ends p e below Φ (T.setTop (mkF m pc Ls (.int x :: rest))) := by
  subst hF; by_cases q : x < (0 : Int32)
  · exact own_via (fun _ k => XS.ifYes X.here hx (g := mkF m pc Ls (.int x :: rest)) rfl (pc0 := pc) (pc' := pcT) rfl hd rfl ((if0 _ _).trans (tlt q).1) ho hT k) (kT q)
  · exact own_via (fun _ k => XS.ifNo X.here hx (g := mkF m pc Ls (.int x :: rest)) rfl hd rfl ((if0 _ _).trans (flt q).1) k) (kF q)
theorem own_icmp_ge (X : Stand p l e R s m args below meth c T locs cells slots) (hx : p.tables.exec = Jvm.exec) {pc pcT pcF : Nat} {Ls : Array Slot} {rest : List Value} {x y : Int32} {o : Int} (hd : decode c.code pc = .ok (.if_icmp .ge o, 3)) (ho : 0 ≤ (pc : Int) + o) (hT : ((pc : Int) + o).toNat = pcT) (hF : pc + 3 = pcF) (kT : ¬ x < y → own_Ends p e below Φ (T.setTop (mkF m pcT Ls rest))) (kF : x < y → own_Ends p e below Φ (T.setTop (mkF m pcF Ls rest))) : own_Ends p e below Φ (T.setTop (mkF m pc Ls (.int y :: .int x :: rest))) := by
  subst hF; by_cases q : x < y
  · exact own_via (fun _ k => XS.icmpNo X.here hx (g := mkF m pc Ls (.int y :: .int x :: rest)) rfl hd rfl (tlt q).2.1 k) (kF q)
  · exact own_via (fun _ k => XS.icmpYes X.here hx (g := mkF m pc Ls (.int y :: .int x :: rest)) rfl (pc0 := pc) (pc' := pcT) rfl hd rfl (flt q).2.1 ho hT k) (kT q)
theorem own_if_ge (X : Stand p l e R s m args below meth c T locs cells slots) (hx : p.tables.exec = Jvm.exec) {pc pcT pcF : Nat} {Ls : Array Slot} {rest : List Value} {x : Int32} {o : Int} (hd : decode c.code pc = .ok (.ifCond .ge o, 3)) (ho : 0 ≤ (pc : Int) + o) (hT : ((pc : Int) + o).toNat = pcT) (hF : pc + 3 = pcF) (kT : ¬ x < (0 : Int32) → own_Ends p e below Φ (T.setTop (mkF m pcT Ls rest))) (kF : x < (0 : Int32) → own_Ends p e below Φ (T.setTop (mkF m pcF Ls rest))) : own_Ends p e below Φ (T.setTop (mkF m pc Ls (.int x :: rest))) := by
  subst hF; by_cases q : x < (0 : Int32)
  · exact own_via (fun _ k => XS.ifNo X.here hx (g := mkF m pc Ls (.int x :: rest)) rfl hd rfl ((if0 _ _).trans (tlt q).2.1) k) (kF q)
  · exact own_via (fun _ k => XS.ifYes X.here hx (g := mkF m pc Ls (.int x :: rest)) rfl (pc0 := pc) (pc' := pcT) rfl hd rfl ((if0 _ _).trans (flt q).2.1) ho hT k) (kT q)
theorem own_icmp_gt (X : Stand p l e R s m args below meth c T locs cells slots) (hx : p.tables.exec = Jvm.exec) {pc pcT pcF : Nat} {Ls : Array Slot} {rest : List Value} {x y : Int32} {o : Int} (hd : decode c.code pc = .ok (.if_icmp .gt o, 3)) (ho : 0 ≤ (pc : Int) + o) (hT : ((pc : Int) + o).toNat = pcT) (hF : pc + 3 = pcF) (kT : y < x → own_Ends p e below Φ (T.setTop (mkF m pcT Ls rest))) (kF : ¬ y < x → own_Ends p e below Φ (T.setTop (mkF m pcF Ls rest))) : own_Ends p e below Φ (T.setTop (mkF m pc Ls (.int y :: .int x :: rest))) := by
  subst hF; by_cases q : y < x
  · exact own_via (fun _ k => XS.icmpYes X.here hx (g := mkF m pc Ls (.int y :: .int x :: rest)) rfl (pc0 := pc) (pc' := pcT) rfl hd rfl (tlt q).2.2.1 ho hT k) (kT q)
  · exact own_via (fun _ k => XS.icmpNo X.here hx (g := mkF m pc Ls (.int y :: .int x :: rest)) rfl hd rfl (flt q).2.2.1 k) (kF q)
theorem own_if_gt (X : Stand p l e R s m args below meth c T locs cells slots) (hx : p.tables.exec = Jvm.exec) {pc pcT pcF : Nat} {Ls : Array Slot} {rest : List Value} {x : Int32} {o : Int} (hd : decode c.code pc = .ok (.ifCond .gt o, 3)) (ho : 0 ≤ (pc : Int) + o) (hT : ((pc : Int) + o).toNat = pcT) (hF : pc + 3 = pcF) (kT : (0 : Int32) < x → own_Ends p e below Φ (T.setTop (mkF m pcT Ls rest))) (kF : ¬ (0 : Int32) < x → own_Ends p e below Φ (T.setTop (mkF m pcF Ls rest))) : own_Ends p e below Φ (T.setTop (mkF m pc Ls (.int x :: rest))) := by
  subst hF; by_cases q : (0 : Int32) < x
  · exact own_via (fun _ k => XS.ifYes X.here hx (g := mkF m pc Ls (.int x :: rest)) rfl (pc0 := pc) (pc' := pcT) rfl hd rfl ((if0 _ _).trans (tlt q).2.2.1) ho hT k) (kT q)
  · exact own_via (fun _ k => XS.ifNo X.here hx (g := mkF m pc Ls (.int x :: rest)) rfl hd rfl ((if0 _ _).trans (flt q).2.2.1) k) (kF q)
theorem own_icmp_le (X : Stand p l e R s m args below meth c T locs cells slots) (hx : p.tables.exec = Jvm.exec) {pc pcT pcF : Nat} {Ls : Array Slot} {rest : List Value} {x y : Int32} {o : Int} (hd : decode c.code pc = .ok (.if_icmp .le o, 3)) (ho : 0 ≤ (pc : Int) + o) (hT : ((pc : Int) + o).toNat = pcT) (hF : pc + 3 = pcF) (kT : ¬ y < x → own_Ends p e below Φ (T.setTop (mkF m pcT Ls rest))) (kF : y < x → own_Ends p e below Φ (T.setTop (mkF m pcF Ls rest))) : own_Ends p e below Φ (T.setTop (mkF m pc Ls (.int y :: .int x :: rest))) := by
  subst hF; by_cases q : y < x
  · exact own_via (fun _ k => XS.icmpNo X.here hx (g := mkF m pc Ls (.int y :: .int x :: rest)) rfl hd rfl (tlt q).2.2.2 k) (kF q)
  · exact own_via (fun _ k => XS.icmpYes X.here hx (g := mkF m pc Ls (.int y :: .int x :: rest)) rfl (pc0 := pc) (pc' := pcT) rfl hd rfl (flt q).2.2.2 ho hT k) (kT q)
theorem own_if_le (X : Stand p l e R s m args below meth c T locs cells slots) (hx : p.tables.exec = Jvm.exec) {pc pcT pcF : Nat} {Ls : Array Slot} {rest : List Value} {x : Int32} {o : Int} (hd : decode c.code pc = .ok (.ifCond .le o, 3)) (ho : 0 ≤ (pc : Int) + o) (hT : ((pc : Int) + o).toNat = pcT) (hF : pc + 3 = pcF) (kT : ¬ (0 : Int32) < x → own_Ends p e below Φ (T.setTop (mkF m pcT Ls rest))) (kF : (0 : Int32) < x → own_Ends p e below Φ (T.setTop (mkF m pcF Ls rest))) : own_Ends p e below Φ (T.setTop (mkF m pc Ls (.int x :: rest))) := by
  subst hF; by_cases q : (0 : Int32) < x
  · exact own_via (fun _ k => XS.ifNo X.here hx (g := mkF m pc Ls (.int x :: rest)) rfl hd rfl ((if0 _ _).trans (tlt q).2.2.2) k) (kF q)
  · exact own_via (fun _ k => XS.ifYes X.here hx (g := mkF m pc Ls (.int x :: rest)) rfl (pc0 := pc) (pc' := pcT) rfl hd rfl ((if0 _ _).trans (flt q).2.2.2) ho hT k) (kT q)
theorem own_icmpT (X : Stand p l e R s m args below meth c T locs cells slots) (hx : p.tables.exec = Jvm.exec) {pc pcT : Nat} {Ls : Array Slot} {rest : List Value} {x y : Int32} {cd : ClassFile.Cond} {o : Int} (hd : decode c.code pc = .ok (.if_icmp cd o, 3)) (ho : 0 ≤ (pc : Int) + o) (hT : ((pc : Int) + o).toNat = pcT) (q : if_icmp.holds cd x y = true) (h : own_Ends p e below Φ (T.setTop (mkF m pcT Ls rest))) : own_Ends p e below Φ (T.setTop (mkF m pc Ls (.int y :: .int x :: rest))) :=
  own_via (fun _ k => XS.icmpYes X.here hx (g := mkF m pc Ls (.int y :: .int x :: rest)) rfl (pc0 := pc) (pc' := pcT) rfl hd rfl q ho hT k) h
theorem own_icmpF (X : Stand p l e R s m args below meth c T locs cells slots) (hx : p.tables.exec = Jvm.exec) {pc pcF : Nat} {Ls : Array Slot} {rest : List Value} {x y : Int32} {cd : ClassFile.Cond} {o : Int} (hd : decode c.code pc = .ok (.if_icmp cd o, 3)) (hF : pc + 3 = pcF) (q : if_icmp.holds cd x y = false) (h : own_Ends p e below Φ (T.setTop (mkF m pcF Ls rest))) : own_Ends p e below Φ (T.setTop (mkF m pc Ls (.int y :: .int x :: rest))) := by
  subst hF; exact own_via (fun _ k => XS.icmpNo X.here hx (g := mkF m pc Ls (.int y :: .int x :: rest)) rfl hd rfl q k) h
theorem own_ifT (X : Stand p l e R s m args below meth c T locs cells slots) (hx : p.tables.exec = Jvm.exec) {pc pcT : Nat} {Ls : Array Slot} {rest : List Value} {x : Int32} {cd : ClassFile.Cond} {o : Int} (hd : decode c.code pc = .ok (.ifCond cd o, 3)) (ho : 0 ≤ (pc : Int) + o) (hT : ((pc : Int) + o).toNat = pcT) (q : if_icmp.holds cd x 0 = true) (h : own_Ends p e below Φ (T.setTop (mkF m pcT Ls rest))) : own_Ends p e below Φ (T.setTop (mkF m pc Ls (.int x :: rest))) :=
  own_via (fun _ k => XS.ifYes X.here hx (g := mkF m pc Ls (.int x :: rest)) rfl (pc0 := pc) (pc' := pcT) rfl hd rfl ((if0 _ _).trans q) ho hT k) h
theorem own_ifF (X : Stand p l e R s m args below meth c T locs cells slots) (hx : p.tables.exec = Jvm.exec) {pc pcF : Nat} {Ls : Array Slot} {rest : List Value} {x : Int32} {cd : ClassFile.Cond} {o : Int} (hd : decode c.code pc = .ok (.ifCond cd o, 3)) (hF : pc + 3 = pcF) (q : if_icmp.holds cd x 0 = false) (h : own_Ends p e below Φ (T.setTop (mkF m pcF Ls rest))) : own_Ends p e below Φ (T.setTop (mkF m pc Ls (.int x :: rest))) := by
  subst hF; exact own_via (fun _ k => XS.ifNo X.here hx (g := mkF m pc Ls (.int x :: rest)) rfl hd rfl ((if0 _ _).trans q) k) h
theorem own_ifnullT (X : Stand p l e R s m args below meth c T locs cells slots) (hx : p.tables.exec = Jvm.exec) {pc pcT : Nat} {Ls : Array Slot} {rest : List Value} {o : Int} (hd : decode c.code pc = .ok (.ifnull o, 3)) (ho : 0 ≤ (pc : Int) + o) (hT : ((pc : Int) + o).toNat = pcT) (h : own_Ends p e below Φ (T.setTop (mkF m pcT Ls rest))) : own_Ends p e below Φ (T.setTop (mkF m pc Ls (.null :: rest))) :=
  own_via (fun _ k => XS.ifnullYes X.here hx (g := mkF m pc Ls (.null :: rest)) rfl (pc0 := pc) (pc' := pcT) rfl hd rfl ho hT k) h
theorem own_ifnullF (X : Stand p l e R s m args below meth c T locs cells slots) (hx : p.tables.exec = Jvm.exec) {pc pcF : Nat} {Ls : Array Slot} {rest : List Value} {b : Addr} {o : Int} (hd : decode c.code pc = .ok (.ifnull o, 3)) (hF : pc + 3 = pcF) (h : own_Ends p e below Φ (T.setTop (mkF m pcF Ls rest))) : own_Ends p e below Φ (T.setTop (mkF m pc Ls (.ref b :: rest))) := by
  subst hF; exact own_via (fun _ k => XS.ifnullNo X.here hx (g := mkF m pc Ls (.ref b :: rest)) rfl hd rfl k) h
theorem own_ifnonnullT (X : Stand p l e R s m args below meth c T locs cells slots) (hx : p.tables.exec = Jvm.exec) {pc pcT : Nat} {Ls : Array Slot} {rest : List Value} {b : Addr} {o : Int} (hd : decode c.code pc = .ok (.ifnonnull o, 3)) (ho : 0 ≤ (pc : Int) + o) (hT : ((pc : Int) + o).toNat = pcT) (h : own_Ends p e below Φ (T.setTop (mkF m pcT Ls rest))) : own_Ends p e below Φ (T.setTop (mkF m pc Ls (.ref b :: rest))) :=
  own_via (fun _ k => XS.ifnonnullYes X.here hx (g := mkF m pc Ls (.ref b :: rest)) rfl (pc0 := pc) (pc' := pcT) rfl hd rfl ho hT k) h
theorem own_ifnonnullF (X : Stand p l e R s m args below meth c T locs cells slots) (hx : p.tables.exec = Jvm.exec) {pc pcF : Nat} {Ls : Array Slot} {rest : List Value} {o : Int} (hd : decode c.code pc = .ok (.ifnonnull o, 3)) (hF : pc + 3 = pcF) (h : own_Ends p e below Φ (T.setTop (mkF m pcF Ls rest))) : own_Ends p e below Φ (T.setTop (mkF m pc Ls (.null :: rest))) := by
  subst hF; exact own_via (fun _ k => XS.ifnonnullNo X.here hx (g := mkF m pc Ls (.null :: rest)) rfl hd rfl k) h
theorem own_acmp (X : Stand p l e R s m args below meth c T locs cells slots) (hx : p.tables.exec = Jvm.exec) {pc pcT pcF : Nat} {Ls : Array Slot} {rest : List Value} {x y : Value} {cd : ClassFile.ACond} {o : Int} (hd : decode c.code pc = .ok (.if_acmp cd o, 3)) (h1 : x.isRef = true) (h2 : y.isRef = true) (ho : 0 ≤ (pc : Int) + o) (hT : ((pc : Int) + o).toNat = pcT) (hF : pc + 3 = pcF)
    (kT : acV cd (decide (x = y)) = true → own_Ends p e below Φ (T.setTop (mkF m pcT Ls rest))) (kF : acV cd (decide (x = y)) = false → own_Ends p e below Φ (T.setTop (mkF m pcF Ls rest))) : own_Ends p e below Φ (T.setTop (mkF m pc Ls (y :: x :: rest))) := by
  subst hF hT
  rcases q : acV cd (decide (x = y)) with _ | _
  · exact own_via (fun _ k => Jvm.RoadKit.acmp (g := mkF m pc Ls (y :: x :: rest)) X hx rfl h1 h2 (pc0 := pc) (pc' := pc + 3) rfl hd rfl rfl ho (by rw [q]; rfl) k) (kF q)
  · exact own_via (fun _ k => Jvm.RoadKit.acmp (g := mkF m pc Ls (y :: x :: rest)) X hx rfl h1 h2 (pc0 := pc) (pc' := ((pc : Int) + o).toNat) rfl hd rfl rfl ho (by rw [q]; rfl) k) (kT q)
theorem own_acmp_eq (X : Stand p l e R s m args below meth c T locs cells slots) (hx : p.tables.exec = Jvm.exec) {pc pcT pcF : Nat} {Ls : Array Slot} {rest : List Value} {x y : Addr} {o : Int} (hd : decode c.code pc = .ok (.if_acmp .eq o, 3)) (ho : 0 ≤ (pc : Int) + o) (hT : ((pc : Int) + o).toNat = pcT) (hF : pc + 3 = pcF)
    (kT : x = y → own_Ends p e below Φ (T.setTop (mkF m pcT Ls rest))) (kF : ¬ x = y → own_Ends p e below Φ (T.setTop (mkF m pcF Ls rest))) : own_Ends p e below Φ (T.setTop (mkF m pc Ls (.ref y :: .ref x :: rest))) :=
  own_acmp X hx hd rfl rfl ho hT hF (fun q => kT (by simpa [acV] using q)) (fun q => kF (by simpa [acV] using q))
theorem own_acmp_ne (X : Stand p l e R s m args below meth c T locs cells slots) (hx : p.tables.exec = Jvm.exec) {pc pcT pcF : Nat} {Ls : Array Slot} {rest : List Value} {x y : Addr} {o : Int} (hd : decode c.code pc = .ok (.if_acmp .ne o, 3)) (ho : 0 ≤ (pc : Int) + o) (hT : ((pc : Int) + o).toNat = pcT) (hF : pc + 3 = pcF)
    (kT : ¬ x = y → own_Ends p e below Φ (T.setTop (mkF m pcT Ls rest))) (kF : x = y → own_Ends p e below Φ (T.setTop (mkF m pcF Ls rest))) : own_Ends p e below Φ (T.setTop (mkF m pc Ls (.ref y :: .ref x :: rest))) :=
  own_acmp X hx hd rfl rfl ho hT hF (fun q => kT (by simpa [acV] using q)) (fun q => kF (by simpa [acV] using q))
theorem own_ldcInt (X : Stand p l e R s m args below meth c T locs cells slots) (hx : p.tables.exec = Jvm.exec) (hZ : Z.Warmed39 s.vm) {own : String} {index : Nat} {v : Int32} (hown : s.vm.findClass own = some m.cls) (w : (Jvm.Cond.constant own index v).before a0 Z = true) {pc pc' : Nat} {Ls : Array Slot} {rest : List Value} (hd : decode c.code pc = .ok (.ldc index, 2)) (hp : pc + 2 = pc') (h : own_Ends p e below Φ (T.setTop (mkF m pc' Ls (.int v :: rest)))) : own_Ends p e below Φ (T.setTop (mkF m pc Ls rest)) := by
  subst hp; exact own_via (X.ldcInt hx hown (mvT hZ w) (g := mkF m pc Ls rest) rfl hd) h
theorem own_getF (X : Stand p l e R s m args below meth c T locs cells slots) (hx : p.tables.exec = Jvm.exec) (hZ : Z.Warmed39 s.vm) {own R0 O n d host : String} {index : Nat} (hown : s.vm.findClass own = some m.cls) (w : (Jvm.Cond.fieldLink own index R0 n d).before a0 Z = true ∨ (Jvm.Cond.fieldLinkNest own index R0 n d host).before a0 Z = true) (via : Via Z R0 O n d) (eT : T.heap = h) {a : Addr} {v : Value} (F : Fld Z h a O n d v) {pc pc' : Nat} {Ls : Array Slot} {rest : List Value}
    (hd : decode c.code pc = .ok (.getfield index, 3)) (hp : pc + 3 = pc') (k : ∀ T', Stand p l e R s m args below meth c T' locs cells slots → T'.heap = h → own_Ends p e below Φ (T'.setTop (mkF m pc' Ls (v :: rest)))) : own_Ends p e below Φ (T.setTop (mkF m pc Ls (.ref a :: rest))) := by
  subst hp; obtain ⟨T', X', e', st⟩ := getF X hx hZ hown w via eT F (g := mkF m pc Ls (.ref a :: rest)) rfl rfl hd
  exact own_via st (k T' X' e')
theorem own_getS (X : Stand p l e R s m args below meth c T locs cells slots) (hx : p.tables.exec = Jvm.exec) (hZ : Z.Warmed39 s.vm) {own R0 O n d host : String} {index : Nat} (hown : s.vm.findClass own = some m.cls) (w : (Jvm.Cond.fieldLink own index R0 n d).before a0 Z = true ∨ (Jvm.Cond.fieldLinkNest own index R0 n d host).before a0 Z = true) (via : Via Z R0 O n d) (eT : T.heap = h) {v : Value} (F : Sta Z h O n d v) {pc pc' : Nat} {Ls : Array Slot} {rest : List Value}
    (hd : decode c.code pc = .ok (.getstatic index, 3)) (hp : pc + 3 = pc') (k : ∀ T', Stand p l e R s m args below meth c T' locs cells slots → T'.heap = h → own_Ends p e below Φ (T'.setTop (mkF m pc' Ls (v :: rest)))) : own_Ends p e below Φ (T.setTop (mkF m pc Ls rest)) := by
  subst hp; obtain ⟨T', X', e', st⟩ := getS2 X hx hZ hown w via eT F (g := mkF m pc Ls rest) rfl hd
  exact own_via st (k T' X' e')
theorem own_putF (X : Stand p l e R s m args below meth c T locs cells slots) (hx : p.tables.exec = Jvm.exec) (hZ : Z.Warmed39 s.vm) {own R0 O n d host C : String} {index kk : Nat} {ty : FieldType} (hown : s.vm.findClass own = some m.cls) (w : (Jvm.Cond.fieldLink own index R0 n d).before a0 Z = true ∨ (Jvm.Cond.fieldLinkNest own index R0 n d host).before a0 Z = true) (via : Via Z R0 O n d) (eT : T.heap = h) {a : Addr} {v old : Value} (F : Fld Z h a O n d old) (E : Exa Z h a C)
    (L : (Jvm.Cond.lays C O n d).before a0 Z = true ∨ ((Jvm.Cond.laysFinal C O n d).before a0 Z = true ∧ own = O ∧ meth.name = "<init>")) (wi : (Jvm.Cond.instantiable C kk).before a0 Z = true) (hty : parseFieldDescriptor d = some ty) (hn : narrow ty v = v) (hf : fits ty v = true) {n0 : Nat} (N : Fr n0 locs) (g : n0 ≤ a) {pc pc' : Nat} {Ls : Array Slot} {rest : List Value}
    (hd : decode c.code pc = .ok (.putfield index, 3)) (hp : pc + 3 = pc') (k : ∀ T' h', Stand p l e R s m args below meth c T' (locs ++ [⟨a, Jvm.RoadKit.slotOf Z O n d⟩]) cells slots → T'.heap = h' → Wr h h' a (Jvm.RoadKit.slotOf Z O n d) v → Fr n0 (locs ++ [⟨a, Jvm.RoadKit.slotOf Z O n d⟩]) → own_Ends p e below Φ (T'.setTop (mkF m pc' Ls rest))) : own_Ends p e below Φ (T.setTop (mkF m pc Ls (v :: .ref a :: rest))) := by
  subst hp; obtain ⟨T', h', X', e', W', st⟩ := putF X hx hZ hown w via eT F E L wi hty hn hf (g := mkF m pc Ls (v :: .ref a :: rest)) rfl rfl hd
  exact own_via st (k T' h' X' e' W' (Fr.snoc X' N g))
theorem own_putFN (X : Stand p l e R s m args below meth c T locs cells slots) (hx : p.tables.exec = Jvm.exec) (hZ : Z.Warmed39 s.vm) {own R0 O n d C : String} {index kk : Nat} {ty : FieldType} (hown : s.vm.findClass own = some m.cls) (w : (Jvm.Cond.fieldLink own index R0 n d).before a0 Z = true) (via : Via Z R0 O n d) (eT : T.heap = h) {a : Addr} {v old : Value} (v' : Value) (F : Fld Z h a O n d old) (E : Exa Z h a C)
    (L : (Jvm.Cond.lays C O n d).before a0 Z = true ∨ ((Jvm.Cond.laysFinal C O n d).before a0 Z = true ∧ own = O ∧ meth.name = "<init>")) (wi : (Jvm.Cond.instantiable C kk).before a0 Z = true) (hty : parseFieldDescriptor d = some ty) (hn : narrow ty v = v') (hf : fits ty v' = true) {n0 : Nat} (N : Fr n0 locs) (g : n0 ≤ a) {pc pc' : Nat} {Ls : Array Slot} {rest : List Value}
    (hd : decode c.code pc = .ok (.putfield index, 3)) (hp : pc + 3 = pc') (k : ∀ T' h', Stand p l e R s m args below meth c T' (locs ++ [⟨a, Jvm.RoadKit.slotOf Z O n d⟩]) cells slots → T'.heap = h' → Wr h h' a (Jvm.RoadKit.slotOf Z O n d) v' → Fr n0 (locs ++ [⟨a, Jvm.RoadKit.slotOf Z O n d⟩]) → own_Ends p e below Φ (T'.setTop (mkF m pc' Ls rest))) : own_Ends p e below Φ (T.setTop (mkF m pc Ls (v :: .ref a :: rest))) := by
  subst hp; obtain ⟨T', h', X', e', W', st⟩ := putFN X hx hZ hown w via eT F E L wi hty hn hf (g := mkF m pc Ls (v :: .ref a :: rest)) rfl rfl hd
  exact own_via st (k T' h' X' e' W' (Fr.snoc X' N g))
theorem own_new (X : Stand p l e R s m args below meth c T locs cells slots) (hx : p.tables.exec = Jvm.exec) (hZ : Z.Warmed39 s.vm) {own C : String} {index n : Nat} (hown : s.vm.findClass own = some m.cls) (w : (Jvm.Cond.classLink own index C).before a0 Z = true) (wi : (Jvm.Cond.instantiable C n).before a0 Z = true) (wz : (Jvm.Cond.initialized C).before a0 Z = true) (eT : T.heap = h) {pc pc' : Nat} {Ls : Array Slot} {rest : List Value}
    (hd : decode c.code pc = .ok (.new index, 3)) (hc : cells + 1 ≤ R.cells) (hl : slots + n ≤ R.slots) (hp : pc + 3 = pc')
    (k : ∀ T' h' b, Stand p l e R s m args below meth c T' locs (cells + 1) (slots + n) → T'.heap = h' → b = h.size → Ext h h' → Exa Z h' b C → (∀ {O nm d : String} {ty : FieldType}, Laid Z a0 C O nm d → parseFieldDescriptor d = some ty → Fld Z h' b O nm d (defaultValue ty)) → own_Ends p e below Φ (T'.setTop (mkF m pc' Ls (.ref b :: rest)))) : own_Ends p e below Φ (T.setTop (mkF m pc Ls rest)) := by
  subst hp; obtain ⟨T', h', X', e', E', A', D', -, st⟩ := newO X hx hZ hown w wi wz eT (g := mkF m pc Ls rest) rfl hd hc hl
  exact own_via st (k T' h' _ X' e' rfl E' A' D')
theorem own_initO (X : Stand p l e R s m args below meth c T locs cells slots) (hx : p.tables.exec = Jvm.exec) (hZ : Z.Warmed39 s.vm) {own : String} {idx : Nat} (hown : s.vm.findClass own = some m.cls) (w1 : (Jvm.Cond.methodLink own idx Lib.objectInit).before a0 Z = true) (w2 : (Jvm.Cond.instanceMethod Lib.objectInit).before a0 Z = true) (w3 : (Jvm.Cond.code Lib.objectInit ⟨#[0xb1]⟩ 1 none).before a0 Z = true) (eT : T.heap = h) {a : Addr} {pc pc' : Nat} {Ls : Array Slot} {rest : List Value} (hsize : Ls.size = c.maxLocals)
    (hd : decode c.code pc = .ok (.invokespecial idx, 3)) (W : Nat) (hW : (rest.map fun v => v.category).sum = W) (hf : 1 ≤ R.frames) (hl : W + 12 ≤ R.locals) (hp : pc + 3 = pc') (k : ∀ T', Stand p l e R s m args below meth c T' locs cells slots → T'.heap = h → own_Ends p e below Φ (T'.setTop (mkF m pc' Ls rest))) : own_Ends p e below Φ (T.setTop (mkF m pc Ls (.ref a :: rest))) := by
  subst hp; obtain ⟨T', X', e', st⟩ := initO X hx hZ hown w1 w2 w3 eT (g := mkF m pc Ls (.ref a :: rest)) rfl hsize rfl hd hf (W := W) (by rw [← hW]; show 2 * 0 + _ ≤ _; omega) hl
  exact own_via st (k T' X' e')
theorem own_static (X : Stand p l e R s m args below meth c T locs cells slots) (hx : p.tables.exec = Jvm.exec) (hZ : Z.Warmed39 s.vm) {own : String} {index : Nat} {y : MethodName} {bytes : ByteArray} {maxL : Nat} {ret : Option FieldType} {rm : Room} {Q : Option Value → Heap → List Loc → Prop} (hown : s.vm.findClass own = some m.cls) (w1 : (Jvm.Cond.methodLink own index y).before a0 Z = true) (w2 : (Jvm.Cond.static y).before a0 Z = true) (w3 : (Jvm.Cond.initialized y.cls).before a0 Z = true) (w4 : (Jvm.Cond.code y bytes maxL ret).before a0 Z = true) (hy : y.cls ≠ "java/lang/invoke/MethodHandle" ∧ y.cls ≠ "java/lang/invoke/VarHandle") (eT : T.heap = h) (hf : rm.frames + 1 ≤ R.frames) {W : Nat} (hl : W + (maxL + 11) + rm.locals ≤ R.locals) (hc : cells + rm.cells ≤ R.cells) (hs : slots + rm.slots ≤ R.slots) {pc pc' : Nat} {Ls : Array Slot} (argsL rest : List Value) {st : List Value} (hsize : Ls.size = c.maxLocals) (hM : own_Met l y bytes maxL ret rm Z argsL.toArray h Q)
    {ps : List FieldType} {r : Option FieldType} (hpd : parseMethodDescriptor y.desc = some ⟨ps, r⟩) (hlen : argsL.length = ps.length) (hst : st = argsL.reverse ++ rest) (hW : (rest.map fun v => v.category).sum = W) (hd : decode c.code pc = .ok (.invokestatic index, 3)) (hp : pc + 3 = pc') (k : ∀ v T' L, Stand p l e R s m args below meth c T' (locs ++ L) (cells + rm.cells) (slots + rm.slots) → Q v T'.heap L → own_Ends p e below Φ (T'.setTop (mkF m pc' Ls (v.toList ++ rest)))) : own_Ends p e below Φ (T.setTop (mkF m pc Ls st)) := by
  subst hp
  obtain ⟨v, _, ⟨T', L', k', n'⟩, -, X', ⟨Lc, hQ, e1, e2, e3⟩, st'⟩ := Jvm.LawKit.callS X hx (y := y) hown (mvT hZ w1) (mvT hZ w2) (mvT hZ w3) (mvT hZ w4) hy (backOf (W := W) (hM []) hZ w4 w3 hf hl) (g := mkF m pc Ls st) rfl hsize (argsL := argsL) (rest := rest) (lenOf hpd hlen) hst (by rw [← hW]; show 2 * 0 + _ ≤ _; omega) hd (fun _ _ => ⟨rfl, eT, hc, hs⟩)
  dsimp only [Pt.U, Pt.locs, Pt.cells, Pt.slots] at X' e1 e2 e3 st' hQ
  subst e1 e2 e3
  exact own_via st' (k v T' Lc X' hQ)
theorem own_special (X : Stand p l e R s m args below meth c T locs cells slots) (hx : p.tables.exec = Jvm.exec) (hZ : Z.Warmed39 s.vm) {own : String} {index : Nat} {y : MethodName} {bytes : ByteArray} {maxL : Nat} {rm : Room} {Q : Option Value → Heap → List Loc → Prop} (hy1 : y.name = "<init>") (hown : s.vm.findClass own = some m.cls) (w1 : (Jvm.Cond.methodLink own index y).before a0 Z = true) (w2 : (Jvm.Cond.instanceMethod y).before a0 Z = true) (w3 : (Jvm.Cond.initialized y.cls).before a0 Z = true) (w4 : (Jvm.Cond.code y bytes maxL none).before a0 Z = true) (hy : y.cls ≠ "java/lang/invoke/MethodHandle" ∧ y.cls ≠ "java/lang/invoke/VarHandle") (eT : T.heap = h) (hf : rm.frames + 1 ≤ R.frames) {W : Nat} (hl : W + (maxL + 11) + rm.locals ≤ R.locals) (hc : cells + rm.cells ≤ R.cells) (hs : slots + rm.slots ≤ R.slots) {pc pc' : Nat} {Ls : Array Slot} (argsL rest : List Value) {st : List Value} (hsize : Ls.size = c.maxLocals) {a : Addr} (hM : own_Met l y bytes maxL none rm Z (.ref a :: argsL).toArray h Q)
    {ps : List FieldType} {r : Option FieldType} (hpd : parseMethodDescriptor y.desc = some ⟨ps, r⟩) (hlen : argsL.length = ps.length) (hst : st = argsL.reverse ++ .ref a :: rest) (hW : (rest.map fun v => v.category).sum = W) (hd : decode c.code pc = .ok (.invokespecial index, 3)) (hp : pc + 3 = pc') (k : ∀ v T' L, Stand p l e R s m args below meth c T' (locs ++ L) (cells + rm.cells) (slots + rm.slots) → Q v T'.heap L → own_Ends p e below Φ (T'.setTop (mkF m pc' Ls (v.toList ++ rest)))) : own_Ends p e below Φ (T.setTop (mkF m pc Ls st)) := by
  subst hp
  obtain ⟨v, _, ⟨T', L', k', n'⟩, -, X', ⟨Lc, hQ, e1, e2, e3⟩, st'⟩ := X.specialBack hx (y := y) hy1 hown (mvT hZ w1) (mvT hZ w2) (mvT hZ w4) hy (backOf (W := W) (hM []) hZ w4 w3 hf hl) (g := mkF m pc Ls st) rfl hsize (Steps.refl _) (a := a) (argsL := argsL) (rest := rest) (lenOf hpd hlen) hst (by rw [← hW]; show 2 * 0 + _ ≤ _; omega) hd (fun _ _ => ⟨rfl, eT, hc, hs⟩)
  dsimp only [Pt.U, Pt.locs, Pt.cells, Pt.slots] at X' e1 e2 e3 st' hQ
  subst e1 e2 e3
  exact own_thru st' (k v T' Lc X' hQ)
theorem own_virtual (X : Stand p l e R s m args below meth c T locs cells slots) (hx : p.tables.exec = Jvm.exec) (hZ : Z.Warmed39 s.vm) {own C : String} {index : Nat} {y z : MethodName} {bytes : ByteArray} {maxL : Nat} {ret : Option FieldType} {rm : Room} {Q : Option Value → Heap → List Loc → Prop} (hown : s.vm.findClass own = some m.cls) (w1 : (Jvm.Cond.methodLink own index y).before a0 Z = true) (w2 : (Jvm.Cond.declares y).before a0 Z = true) (hnf : NotFace s y) (w3 : (Jvm.Cond.selects C y z).before a0 Z = true) (w4 : (Jvm.Cond.instanceMethod z).before a0 Z = true) (w5 : (Jvm.Cond.initialized z.cls).before a0 Z = true) (w6 : (Jvm.Cond.code z bytes maxL ret).before a0 Z = true) (hy : y.cls ≠ "java/lang/invoke/MethodHandle" ∧ y.cls ≠ "java/lang/invoke/VarHandle") (eT : T.heap = h) (hf : rm.frames + 1 ≤ R.frames) {W : Nat} (hl : W + (maxL + 11) + rm.locals ≤ R.locals) (hc : cells + rm.cells ≤ R.cells) (hs : slots + rm.slots ≤ R.slots) {pc pc' : Nat} {Ls : Array Slot} (argsL rest : List Value) {st : List Value} (hsize : Ls.size = c.maxLocals) {a : Addr} (E : Exa Z h a C) (hM : own_Met l z bytes maxL ret rm Z (.ref a :: argsL).toArray h Q)
    {ps : List FieldType} {r : Option FieldType} (hpd : parseMethodDescriptor y.desc = some ⟨ps, r⟩) (hlen : argsL.length = ps.length) (hst : st = argsL.reverse ++ .ref a :: rest) (hW : (rest.map fun v => v.category).sum = W) (hd : decode c.code pc = .ok (.invokevirtual index, 3)) (hp : pc + 3 = pc') (k : ∀ v T' L, Stand p l e R s m args below meth c T' (locs ++ L) (cells + rm.cells) (slots + rm.slots) → Q v T'.heap L → own_Ends p e below Φ (T'.setTop (mkF m pc' Ls (v.toList ++ rest)))) : own_Ends p e below Φ (T.setTop (mkF m pc Ls st)) := by
  subst hp
  obtain ⟨cq, kq, q1, q2, q3⟩ := isOf hZ eT E
  obtain ⟨v, _, ⟨T', L', k', n'⟩, -, X', ⟨Lc, hQ, e1, e2, e3⟩, st'⟩ := X.virtualBack hx (y := y) (z := z) hown (mvT hZ w1) (mvT hZ w2) hnf (mvT hZ w3) (mvT hZ w4) hy (backOf (W := W) (hM []) hZ w6 w5 hf hl) q1 q3 (g := mkF m pc Ls st) rfl hsize (Steps.refl _) (argsL := argsL) (rest := rest) (lenOf hpd hlen) hst (by rw [← hW]; show 2 * 0 + _ ≤ _; omega) hd (fun _ _ => ⟨rfl, eT, hc, hs⟩)
  dsimp only [Pt.U, Pt.locs, Pt.cells, Pt.slots] at X' e1 e2 e3 st' hQ
  subst e1 e2 e3
  exact own_thru st' (k v T' Lc X' hQ)
theorem own_private (X : Stand p l e R s m args below meth c T locs cells slots) (hx : p.tables.exec = Jvm.exec) (hZ : Z.Warmed39 s.vm) {own : String} {index : Nat} {y : MethodName} {bytes : ByteArray} {maxL : Nat} {ret : Option FieldType} {rm : Room} {Q : Option Value → Heap → List Loc → Prop} (hown : s.vm.findClass own = some m.cls) (w1 : (Jvm.Cond.methodLink own index y).before a0 Z = true) (hnf : ∀ c k, s.vm.findClass y.cls = some c → s.vm.classes[c]? = some k → k.isInterface = false) (w4 : (Jvm.Cond.instanceMethod y).before a0 Z = true) (wp : (Jvm.Cond.privateMethod y).before a0 Z = true) (w5 : (Jvm.Cond.initialized y.cls).before a0 Z = true) (w6 : (Jvm.Cond.code y bytes maxL ret).before a0 Z = true) (hy : y.cls ≠ "java/lang/invoke/MethodHandle" ∧ y.cls ≠ "java/lang/invoke/VarHandle") (eT : T.heap = h) (hf : rm.frames + 1 ≤ R.frames) {W : Nat} (hl : W + (maxL + 11) + rm.locals ≤ R.locals) (hc : cells + rm.cells ≤ R.cells) (hs : slots + rm.slots ≤ R.slots) {pc pc' : Nat} {Ls : Array Slot} (argsL rest : List Value) {st : List Value} (hsize : Ls.size = c.maxLocals) {a : Addr} {C : String} (E : Exa Z h a C) (hM : own_Met l y bytes maxL ret rm Z (.ref a :: argsL).toArray h Q)
    {ps : List FieldType} {r : Option FieldType} (hpd : parseMethodDescriptor y.desc = some ⟨ps, r⟩) (hlen : argsL.length = ps.length) (hst : st = argsL.reverse ++ .ref a :: rest) (hW : (rest.map fun v => v.category).sum = W) (hd : decode c.code pc = .ok (.invokevirtual index, 3)) (hp : pc + 3 = pc') (k : ∀ v T' L, Stand p l e R s m args below meth c T' (locs ++ L) (cells + rm.cells) (slots + rm.slots) → Q v T'.heap L → own_Ends p e below Φ (T'.setTop (mkF m pc' Ls (v.toList ++ rest)))) : own_Ends p e below Φ (T.setTop (mkF m pc Ls st)) := by
  subst hp
  obtain ⟨cl, q1, q2⟩ := E.cell
  have hpr := Cond.privateMethod_at (mvP hZ wp (args := args))
  have hin : (Jvm.Cond.instanceMethod y).before args s = true := mvT hZ w4
  obtain ⟨mk, methM, hnamed, hmethM, -, -⟩ := Cond.instanceMethod_spec hin
  obtain ⟨kk, hkk, -⟩ := className_of_methodNamed hnamed
  have hfc := findClass_of_methodNamed hnamed
  have hsel := selects_self_of_private (args := args) hfc hkk (hnf _ _ hfc hkk) hpr hin hy
  obtain ⟨v, _, ⟨T', L', k', n'⟩, -, X', ⟨Lc, hQ, e1, e2, e3⟩, st'⟩ := X.privateBack hx (y := y) hown (mvT hZ w1) hin hsel hpr (mvT hZ w6) hy (backOf (W := W) (hM []) hZ w6 w5 hf hl) (g := mkF m pc Ls st) rfl hsize (Steps.refl _) (a := a) (by rw [eT]; exact q1) q2 (argsL := argsL) (rest := rest) (lenOf hpd hlen) hst (by rw [← hW]; show 2 * 0 + _ ≤ _; omega) hd (fun _ _ => ⟨rfl, eT, hc, hs⟩)
  dsimp only [Pt.U, Pt.locs, Pt.cells, Pt.slots] at X' e1 e2 e3 st' hQ
  subst e1 e2 e3
  exact own_thru st' (k v T' Lc X' hQ)
theorem own_nf (hZ : Z.Warmed39 s.vm) {C : String} {y z : MethodName} (w : (Jvm.Cond.selects C y z).before a0 Z = true) : ∀ c k, s.vm.findClass z.cls = some c → s.vm.classes[c]? = some k → k.isInterface = false := fun c k h1 h2 => by
  obtain ⟨c2, r2, m2, -, -, q3, -, kP, hkP, hkPi⟩ := Cond.selects_spec (show (Jvm.Cond.selects C y z).before #[] s = true from mvT hZ w)
  have := findClass_of_methodNamed q3
  cases this.symm.trans h1
  cases hkP.symm.trans h2
  exact hkPi
theorem own_leave (X : Stand p l e R s m args below meth c T locs cells slots) (hlocks : meth.locks = false) {v : Option Value} (hv : meth.sig.returnType = none → v = none) {Q : Option Value → Heap → List Loc → Prop} {kc ks : Nat} (hc : cells ≤ kc) (hs : slots ≤ ks) (hq : Q v T.heap locs) {t : State}
    (step : ∀ fs, (∀ (f : JFrame) (acts : List Action), f.method = m → f.locked = none → f.entered = [] → (doReturn e (T.setTop f) acts v).1 = T.setFrames fs) → Steps p.tables e below t (T.setFrames fs)) : own_Ends p e below (own_Post s Q kc ks) t := by
  obtain ⟨fs, hr, hrun, hended, hW, hsame⟩ := X.leave (v := v) hv hlocks
  exact ⟨_, _, step fs hr, hrun, hended, v, locs, rfl, hq, ⟨_, rfl⟩, hW, hsame.mono hc hs⟩
theorem own_retN (X : Stand p l e R s m args below meth c T locs cells slots) (hx : p.tables.exec = Jvm.exec) (hlocks : meth.locks = false) {t : FieldType} (hret : meth.sig.returnType = some t) (ht : t = .boolean ∨ t = .byte ∨ t = .char ∨ t = .short) {pc : Nat} {Ls : Array Slot} {z : Int32} {rest : List Value} (hd : decode c.code pc = .ok (.ireturn, 1)) {Q : Option Value → Heap → List Loc → Prop} {kc ks : Nat} (hc : cells ≤ kc) (hs : slots ≤ ks) (hn : nar t z = z) (hq : Q (some (.int z)) T.heap locs) :
    own_Ends p e below (own_Post s Q kc ks) (T.setTop (mkF m pc Ls (.int z :: rest))) :=
  own_leave X hlocks (v := some (.int (nar t z))) (fun h => by rw [hret] at h; cases h) hc hs (by rw [hn]; exact hq) (fun fs hr => retN X hx hret ht hd hr)
theorem own_retI (X : Stand p l e R s m args below meth c T locs cells slots) (hx : p.tables.exec = Jvm.exec) (hlocks : meth.locks = false) (hret : meth.sig.returnType = some .int) {pc : Nat} {Ls : Array Slot} {z : Int32} {rest : List Value} (hd : decode c.code pc = .ok (.ireturn, 1)) {Q : Option Value → Heap → List Loc → Prop} {kc ks : Nat} (hc : cells ≤ kc) (hs : slots ≤ ks) (hq : Q (some (.int z)) T.heap locs) :
    own_Ends p e below (own_Post s Q kc ks) (T.setTop (mkF m pc Ls (.int z :: rest))) :=
  own_leave X hlocks (v := some (.int z)) (fun h => by rw [hret] at h; cases h) hc hs hq (fun fs hr => retOut X hx hret (w := .int z) rfl (Or.inl ⟨rfl, Or.inl rfl, z, rfl⟩) hd hr)
theorem own_retJ (X : Stand p l e R s m args below meth c T locs cells slots) (hx : p.tables.exec = Jvm.exec) (hlocks : meth.locks = false) (hret : meth.sig.returnType = some .long) {pc : Nat} {Ls : Array Slot} {z : Int64} {rest : List Value} (hd : decode c.code pc = .ok (.lreturn, 1)) {Q : Option Value → Heap → List Loc → Prop} {kc ks : Nat} (hc : cells ≤ kc) (hs : slots ≤ ks) (hq : Q (some (.long z)) T.heap locs) :
    own_Ends p e below (own_Post s Q kc ks) (T.setTop (mkF m pc Ls (.long z :: rest))) :=
  own_leave X hlocks (v := some (.long z)) (fun h => by rw [hret] at h; cases h) hc hs hq (fun fs hr => retOut X hx hret (w := .long z) rfl (Or.inr (Or.inl ⟨rfl, rfl, z, rfl⟩)) hd hr)
theorem own_narR {t : FieldType} (ht : t.isReference = true) {w : Value} (hw : w.isRef = true) : narrow t w = w := by cases t <;> first | (cases w <;> first | rfl | cases hw) | cases ht
theorem own_retA (X : Stand p l e R s m args below meth c T locs cells slots) (hx : p.tables.exec = Jvm.exec) (hlocks : meth.locks = false) {t : FieldType} (hret : meth.sig.returnType = some t) (ht : t.isReference = true) {pc : Nat} {Ls : Array Slot} {w : Value} (hw : w.isRef = true) {rest : List Value} (hd : decode c.code pc = .ok (.areturn, 1)) {Q : Option Value → Heap → List Loc → Prop} {kc ks : Nat} (hc : cells ≤ kc) (hs : slots ≤ ks) (hq : Q (some w) T.heap locs) :
    own_Ends p e below (own_Post s Q kc ks) (T.setTop (mkF m pc Ls (w :: rest))) :=
  own_leave X hlocks (v := some w) (fun h => by rw [hret] at h; cases h) hc hs hq (fun fs hr => retOut X hx hret (own_narR ht hw) (Or.inr (Or.inr (Or.inr (Or.inr ⟨rfl, ht, hw⟩)))) hd hr)
theorem own_ret (X : Stand p l e R s m args below meth c T locs cells slots) (hx : p.tables.exec = Jvm.exec) (hlocks : meth.locks = false) (hret : meth.sig.returnType = none) {pc : Nat} {Ls : Array Slot} (hd : decode c.code pc = .ok (.return_, 1)) {Q : Option Value → Heap → List Loc → Prop} {kc ks : Nat} (hc : cells ≤ kc) (hs : slots ≤ ks) (hq : Q none T.heap locs) :
    own_Ends p e below (own_Post s Q kc ks) (T.setTop (mkF m pc Ls [])) :=
  own_leave X hlocks (v := none) (fun _ => rfl) hc hs hq (fun fs hr => X.returnOut hx hret hd hr)
end OwnKit
section OwnKitH
variable {p : Program} {l : Launch} {e : Env} {R : Room} {s : State} {m : MethodId} {args : Array Value} {below : List Frame} {meth : Method} {c : Code} {T : State} {locs : List Loc} {cells slots : Nat} {Z : State} {a0 : Array Value} {h : Heap} {Φ : Outcome → State → Prop} {vm0 : Vm} {EL : List (String × Nat)} {h0 : Heap}
def own_H (Z : State) (EL : List (String × Nat)) (s : State) (h0 : Heap) (vm0 : Vm) (h : Heap) : Prop := s.heap = h0 ∧ (∃ k0, s.Since vm0 k0 ∧ k0 ≤ h.size) ∧ CHr Z EL s.vm h0 vm0 h
theorem own_H.ext {h' : Heap} (H : own_H Z EL s h0 vm0 h) (E : Ext h h') : own_H Z EL s h0 vm0 h' := ⟨H.1, by obtain ⟨k, h1, h2⟩ := H.2.1; exact ⟨k, h1, Nat.le_trans h2 E.1⟩, H.2.2.trans (CHr.ext E H.2.2.1)⟩
theorem own_H.wr {h' : Heap} {a : Addr} {sl : Nat} {v : Value} (H : own_H Z EL s h0 vm0 h) (W : Wr h h' a sl v) (S : Safe Z EL vm0 h a) : own_H Z EL s h0 vm0 h' := ⟨H.1, by obtain ⟨k, h1, h2⟩ := H.2.1; exact ⟨k, h1, by rw [W.size]; exact h2⟩, H.2.2.trans (CHr.wr W S H.2.2.1)⟩
theorem own_H.keep {h' : Heap} {ws : List Addr} (H : own_H Z EL s h0 vm0 h) (K : Keep h h' ws) (S : ∀ x ∈ ws, Safe Z EL vm0 h x) : own_H Z EL s h0 vm0 h' := ⟨H.1, by obtain ⟨k, h1, h2⟩ := H.2.1; exact ⟨k, h1, Nat.le_trans h2 K.1⟩, H.2.2.trans (CHr.keep K S H.2.2.1)⟩
theorem own_H.ch (H : own_H Z EL s h0 vm0 h) : CHv Z EL vm0 h := H.2.2.1
theorem own_sfE {h' : Heap} {y : Addr} (S : Safe Z EL vm0 h y) (E : Ext h h') (H : own_H Z EL s h0 vm0 h) : Safe Z EL vm0 h' y := Safe.ext E H.ch S
theorem own_sfN {h' : Heap} {y : Addr} (q : y = h.size) (E : Ext h h') (H : own_H Z EL s h0 vm0 h) : Safe Z EL vm0 h' y := Safe.ext E H.ch (Safe.new (Nat.le_of_eq q.symm))
theorem own_sfW {h' : Heap} {y a : Addr} {sl : Nat} {v : Value} (S : Safe Z EL vm0 h y) (W : Wr h h' a sl v) (Sa : Safe Z EL vm0 h a) (H : own_H Z EL s h0 vm0 h) : Safe Z EL vm0 h' y := Safe.wr W Sa H.ch S
theorem own_sfK {h' : Heap} {y : Addr} {ws : List Addr} (S : Safe Z EL vm0 h y) (K : Keep h h' ws) (Sw : ∀ x ∈ ws, Safe Z EL vm0 h x) (H : own_H Z EL s h0 vm0 h) : Safe Z EL vm0 h' y := Safe.keep K Sw H.ch S
def own_PostH (Z : State) (EL : List (String × Nat)) (s : State) (Q : Option Value → Heap → List Loc → Prop) (kc ks : Nat) (o : Outcome) (U : State) : Prop := ∃ v L, o = .returned v ∧ Q v U.heap L ∧ CHr Z EL s.vm s.heap U.vm U.heap ∧ ReturnedEndW s o U L kc ks
def own_MetH (l : Launch) (y : MethodName) (bytes : ByteArray) (maxL : Nat) (ret : Option FieldType) (rm : Room) (Z : State) (EL : List (String × Nat)) (as' : Array Value) (h0 : Heap) (Q : Option Value → Heap → List Loc → Prop) : Prop :=
  ∀ ws : List Jvm.Cond, MetFree l y (head1 (Jvm.Cond.code y bytes maxL ret :: ws) rm) (fun a U => a = as' ∧ Z.Warmed39 U.vm ∧ U.heap = h0 ∧ CHv Z EL U.vm h0) (fun _ _ _ _ _ => True) (fun _ U o U' => ∃ v L, o = .returned v ∧ Q v U'.heap L ∧ CHr Z EL U.vm U.heap U'.vm U'.heap ∧ ReturnedEndW U o U' L rm.cells rm.slots)
theorem own_metH {y : MethodName} {bytes : ByteArray} {maxL : Nat} {ret : Option FieldType} {rm : Room} {as' : Array Value} {Q : Option Value → Heap → List Loc → Prop} (hp : plainFor y = true)
    (body : ∀ (p : Program) (e : Env) (s : State) (m : MethodId) (below : List Frame) (meth : Method) (c : Code) (T : State), p.tables.exec = Jvm.exec → c.code = bytes → c.maxLocals = maxL → Z.Warmed39 (s.setVm s.vm).vm → (s.setVm s.vm).vm.findClass y.cls = some m.cls → meth.name = y.name → meth.sig.returnType = ret → meth.locks = false →
      Stand p l e rm (s.setVm s.vm) m as' below meth c T [] 0 0 → T.heap = h0 → s.heap = h0 → own_H Z EL s h0 s.vm h0 → own_Ends p e below (own_PostH Z EL s Q rm.cells rm.slots) (T.setTop (entryFrame m as' maxL))) : own_MetH l y bytes maxL ret rm Z EL as' h0 Q := by
  intro ws
  refine MetFree.of_bodySF hp hisR ?_
  intro p e s m args below meth c s₁ Bd hml0 hP hK
  obtain ⟨rfl, hZ, hh, hC⟩ := hP
  exact body p e s m below meth c s₁ Bd.exec Bd.bytes hml0 hZ (findClass_of_methodNamed Bd.named) (name_of_methodNamed Bd.named Bd.method).1 Bd.returns (BodyLoose.notSynchronized Bd) (Stand.of_body Bd) (by rw [← hh, Bd.state]; rfl) hh ⟨hh, ⟨0, ⟨State.Warmed39.refl s, (State.WarmedH.refl s).no_new_pair 0⟩, Nat.zero_le _⟩, CHr.refl hC⟩
/-- a plain contract serves where an H one is asked -/
theorem own_leaveH (X : Stand p l e R (s.setVm vm0) m args below meth c T locs cells slots) (hlocks : meth.locks = false) {v : Option Value} (hv : meth.sig.returnType = none → v = none) (hZ : Z.Warmed39 (s.setVm vm0).vm) (eT : T.heap = h) (HH : own_H Z EL s h0 vm0 h) (hEL : EW Z a0 EL) {Q : Option Value → Heap → List Loc → Prop} {kc ks : Nat} (hc : cells ≤ kc) (hs : slots ≤ ks) (hq : Q v T.heap locs) {t : State}
    (step : ∀ fs, (∀ (f : JFrame) (acts : List Action), f.method = m → f.locked = none → f.entered = [] → (doReturn e (T.setTop f) acts v).1 = T.setFrames fs) → Steps p.tables e below t (T.setFrames fs)) : own_Ends p e below (own_PostH Z EL s Q kc ks) t := by
  obtain ⟨hh, ⟨k0, hS, hk⟩, hC⟩ := HH
  obtain ⟨fs, hr, hrun, hended, hE⟩ := X.leaveW hS (by rw [eT]; exact hk) (v := v) hv hlocks
  subst hh eT
  have A := hC.trans (CHv.at X hZ hEL hC.1)
  exact ⟨_, _, step fs hr, hrun, hended, v, locs, rfl, hq, A, hE.1, hE.2.1, hE.2.2.1, hE.2.2.2.mono hc hs⟩
theorem own_retNH (X : Stand p l e R (s.setVm vm0) m args below meth c T locs cells slots) (hx : p.tables.exec = Jvm.exec) (hZ : Z.Warmed39 (s.setVm vm0).vm) (eT : T.heap = h) (HH : own_H Z EL s h0 vm0 h) (hEL : EW Z a0 EL) (hlocks : meth.locks = false) {t : FieldType} (hret : meth.sig.returnType = some t) (ht : t = .boolean ∨ t = .byte ∨ t = .char ∨ t = .short) {pc : Nat} {Ls : Array Slot} {z : Int32} {rest : List Value} (hd : decode c.code pc = .ok (.ireturn, 1)) {Q : Option Value → Heap → List Loc → Prop} {kc ks : Nat} (hc : cells ≤ kc) (hs : slots ≤ ks) (hn : nar t z = z) (hq : Q (some (.int z)) T.heap locs) :
    own_Ends p e below (own_PostH Z EL s Q kc ks) (T.setTop (mkF m pc Ls (.int z :: rest))) :=
  own_leaveH X hlocks (v := some (.int (nar t z))) (fun h => by rw [hret] at h; cases h) hZ eT HH hEL hc hs (by rw [hn]; exact hq) (fun fs hr => retN X hx hret ht hd hr)
theorem own_retIH (X : Stand p l e R (s.setVm vm0) m args below meth c T locs cells slots) (hx : p.tables.exec = Jvm.exec) (hZ : Z.Warmed39 (s.setVm vm0).vm) (eT : T.heap = h) (HH : own_H Z EL s h0 vm0 h) (hEL : EW Z a0 EL) (hlocks : meth.locks = false) (hret : meth.sig.returnType = some .int) {pc : Nat} {Ls : Array Slot} {z : Int32} {rest : List Value} (hd : decode c.code pc = .ok (.ireturn, 1)) {Q : Option Value → Heap → List Loc → Prop} {kc ks : Nat} (hc : cells ≤ kc) (hs : slots ≤ ks) (hq : Q (some (.int z)) T.heap locs) :
    own_Ends p e below (own_PostH Z EL s Q kc ks) (T.setTop (mkF m pc Ls (.int z :: rest))) :=
  own_leaveH X hlocks (v := some (.int z)) (fun h => by rw [hret] at h; cases h) hZ eT HH hEL hc hs hq (fun fs hr => retOut X hx hret (w := .int z) rfl (Or.inl ⟨rfl, Or.inl rfl, z, rfl⟩) hd hr)
theorem own_retJH (X : Stand p l e R (s.setVm vm0) m args below meth c T locs cells slots) (hx : p.tables.exec = Jvm.exec) (hZ : Z.Warmed39 (s.setVm vm0).vm) (eT : T.heap = h) (HH : own_H Z EL s h0 vm0 h) (hEL : EW Z a0 EL) (hlocks : meth.locks = false) (hret : meth.sig.returnType = some .long) {pc : Nat} {Ls : Array Slot} {z : Int64} {rest : List Value} (hd : decode c.code pc = .ok (.lreturn, 1)) {Q : Option Value → Heap → List Loc → Prop} {kc ks : Nat} (hc : cells ≤ kc) (hs : slots ≤ ks) (hq : Q (some (.long z)) T.heap locs) :
    own_Ends p e below (own_PostH Z EL s Q kc ks) (T.setTop (mkF m pc Ls (.long z :: rest))) :=
  own_leaveH X hlocks (v := some (.long z)) (fun h => by rw [hret] at h; cases h) hZ eT HH hEL hc hs hq (fun fs hr => retOut X hx hret (w := .long z) rfl (Or.inr (Or.inl ⟨rfl, rfl, z, rfl⟩)) hd hr)
theorem own_retAH (X : Stand p l e R (s.setVm vm0) m args below meth c T locs cells slots) (hx : p.tables.exec = Jvm.exec) (hZ : Z.Warmed39 (s.setVm vm0).vm) (eT : T.heap = h) (HH : own_H Z EL s h0 vm0 h) (hEL : EW Z a0 EL) (hlocks : meth.locks = false) {t : FieldType} (hret : meth.sig.returnType = some t) (ht : t.isReference = true) {pc : Nat} {Ls : Array Slot} {w : Value} (hw : w.isRef = true) {rest : List Value} (hd : decode c.code pc = .ok (.areturn, 1)) {Q : Option Value → Heap → List Loc → Prop} {kc ks : Nat} (hc : cells ≤ kc) (hs : slots ≤ ks) (hq : Q (some w) T.heap locs) :
    own_Ends p e below (own_PostH Z EL s Q kc ks) (T.setTop (mkF m pc Ls (w :: rest))) :=
  own_leaveH X hlocks (v := some w) (fun h => by rw [hret] at h; cases h) hZ eT HH hEL hc hs hq (fun fs hr => retOut X hx hret (own_narR ht hw) (Or.inr (Or.inr (Or.inr (Or.inr ⟨rfl, ht, hw⟩)))) hd hr)
theorem own_retH (X : Stand p l e R (s.setVm vm0) m args below meth c T locs cells slots) (hx : p.tables.exec = Jvm.exec) (hZ : Z.Warmed39 (s.setVm vm0).vm) (eT : T.heap = h) (HH : own_H Z EL s h0 vm0 h) (hEL : EW Z a0 EL) (hlocks : meth.locks = false) (hret : meth.sig.returnType = none) {pc : Nat} {Ls : Array Slot} (hd : decode c.code pc = .ok (.return_, 1)) {Q : Option Value → Heap → List Loc → Prop} {kc ks : Nat} (hc : cells ≤ kc) (hs : slots ≤ ks) (hq : Q none T.heap locs) :
    own_Ends p e below (own_PostH Z EL s Q kc ks) (T.setTop (mkF m pc Ls [])) :=
  own_leaveH X hlocks (v := none) (fun _ => rfl) hZ eT HH hEL hc hs hq (fun fs hr => X.returnOut hx hret hd hr)
theorem own_staticH (X : Stand p l e R (s.setVm vm0) m args below meth c T locs cells slots) (hx : p.tables.exec = Jvm.exec) (hZ : Z.Warmed39 (s.setVm vm0).vm) {own : String} {index : Nat} {y : MethodName} {bytes : ByteArray} {maxL : Nat} {ret : Option FieldType} {rm : Room} {Q : Option Value → Heap → List Loc → Prop} (hown : (s.setVm vm0).vm.findClass own = some m.cls) (w1 : (Jvm.Cond.methodLink own index y).before a0 Z = true) (w2 : (Jvm.Cond.static y).before a0 Z = true) (w3 : (Jvm.Cond.initialized y.cls).before a0 Z = true) (w4 : (Jvm.Cond.code y bytes maxL ret).before a0 Z = true) (hy : y.cls ≠ "java/lang/invoke/MethodHandle" ∧ y.cls ≠ "java/lang/invoke/VarHandle") (HH : own_H Z EL s h0 vm0 h) (hEL : EW Z a0 EL) (eT : T.heap = h) (hf : rm.frames + 1 ≤ R.frames) {W : Nat} (hl : W + (maxL + 11) + rm.locals ≤ R.locals) (hc : cells + rm.cells ≤ R.cells) (hs : slots + rm.slots ≤ R.slots) {pc pc' : Nat} {Ls : Array Slot} (argsL rest : List Value) {st : List Value} (hsize : Ls.size = c.maxLocals) (hM : own_MetH l y bytes maxL ret rm Z EL argsL.toArray h Q)
    {ps : List FieldType} {r : Option FieldType} (hpd : parseMethodDescriptor y.desc = some ⟨ps, r⟩) (hlen : argsL.length = ps.length) (hst : st = argsL.reverse ++ rest) (hW : (rest.map fun v => v.category).sum = W) (hd : decode c.code pc = .ok (.invokestatic index, 3)) (hp : pc + 3 = pc') (k : ∀ v T' L, Stand p l e R (s.setVm T'.vm) m args below meth c T' (locs ++ L) (cells + rm.cells) (slots + rm.slots) → Q v T'.heap L → Z.Warmed39 (s.setVm T'.vm).vm → (s.setVm T'.vm).vm.findClass own = some m.cls → own_H Z EL s h0 T'.vm T'.heap → CHr Z EL vm0 h T'.vm T'.heap → own_Ends p e below Φ (T'.setTop (mkF m pc' Ls (v.toList ++ rest)))) : own_Ends p e below Φ (T.setTop (mkF m pc Ls st)) := by
  subst hp
  obtain ⟨v, _, ⟨T', L', k', n'⟩, -, X', hS', hgr, ⟨Lc, hQ, e1, e2, e3, hC⟩, st'⟩ :=  callSS X hx (y := y) hown (mvT hZ w1) (mvT hZ w2) (mvT hZ w3) (mvT hZ w4) hy (backOfSH (s := s) (vm0 := vm0) (W := W) (hM []) hZ w4 w3 hf hl hEL HH.ch) (g := mkF m pc Ls st) rfl hsize (argsL := argsL) (rest := rest) (lenOf hpd hlen) hst (by rw [← hW]; show 2 * 0 + _ ≤ _; omega) hd (fun _ _ => ⟨rfl, eT, hc, hs⟩)
  dsimp only [Pt.U, Pt.locs, Pt.cells, Pt.slots] at X' hS' hgr e1 e2 e3 hC st' hQ
  subst e1 e2 e3
  obtain ⟨hh, ⟨k0, hS, hk⟩, hC0⟩ := HH
  subst eT
  exact own_thru st' (k v T' Lc X' hQ (State.Warmed39.trans (t := s.setVm vm0) hZ hS'.1) (by rw [show (s.setVm T'.vm).vm = T'.vm from rfl, hS'.1.alike.findClass]; exact hown) ⟨hh, ⟨_, hS.trans hS' (Nat.le_trans hk hgr), Nat.le_refl _⟩, hC0.trans hC⟩ hC)
theorem own_specialH (X : Stand p l e R (s.setVm vm0) m args below meth c T locs cells slots) (hx : p.tables.exec = Jvm.exec) (hZ : Z.Warmed39 (s.setVm vm0).vm) {own : String} {index : Nat} {y : MethodName} {bytes : ByteArray} {maxL : Nat} {rm : Room} {Q : Option Value → Heap → List Loc → Prop} (hy1 : y.name = "<init>") (hown : (s.setVm vm0).vm.findClass own = some m.cls) (w1 : (Jvm.Cond.methodLink own index y).before a0 Z = true) (w2 : (Jvm.Cond.instanceMethod y).before a0 Z = true) (w3 : (Jvm.Cond.initialized y.cls).before a0 Z = true) (w4 : (Jvm.Cond.code y bytes maxL none).before a0 Z = true) (hy : y.cls ≠ "java/lang/invoke/MethodHandle" ∧ y.cls ≠ "java/lang/invoke/VarHandle") (HH : own_H Z EL s h0 vm0 h) (hEL : EW Z a0 EL) (eT : T.heap = h) (hf : rm.frames + 1 ≤ R.frames) {W : Nat} (hl : W + (maxL + 11) + rm.locals ≤ R.locals) (hc : cells + rm.cells ≤ R.cells) (hs : slots + rm.slots ≤ R.slots) {pc pc' : Nat} {Ls : Array Slot} (argsL rest : List Value) {st : List Value} (hsize : Ls.size = c.maxLocals) {a : Addr} (hM : own_MetH l y bytes maxL none rm Z EL (.ref a :: argsL).toArray h Q)
    {ps : List FieldType} {r : Option FieldType} (hpd : parseMethodDescriptor y.desc = some ⟨ps, r⟩) (hlen : argsL.length = ps.length) (hst : st = argsL.reverse ++ .ref a :: rest) (hW : (rest.map fun v => v.category).sum = W) (hd : decode c.code pc = .ok (.invokespecial index, 3)) (hp : pc + 3 = pc') (k : ∀ v T' L, Stand p l e R (s.setVm T'.vm) m args below meth c T' (locs ++ L) (cells + rm.cells) (slots + rm.slots) → Q v T'.heap L → Z.Warmed39 (s.setVm T'.vm).vm → (s.setVm T'.vm).vm.findClass own = some m.cls → own_H Z EL s h0 T'.vm T'.heap → CHr Z EL vm0 h T'.vm T'.heap → own_Ends p e below Φ (T'.setTop (mkF m pc' Ls (v.toList ++ rest)))) : own_Ends p e below Φ (T.setTop (mkF m pc Ls st)) := by
  subst hp
  obtain ⟨v, _, ⟨T', L', k', n'⟩, -, X', hS', hgr, ⟨Lc, hQ, e1, e2, e3, hC⟩, st'⟩ :=  X.specialBackS hx (y := y) hy1 hown (mvT hZ w1) (mvT hZ w2) (mvT hZ w4) hy (backOfSH (s := s) (vm0 := vm0) (W := W) (hM []) hZ w4 w3 hf hl hEL HH.ch) (g := mkF m pc Ls st) rfl hsize (Steps.refl _) (a := a) (argsL := argsL) (rest := rest) (lenOf hpd hlen) hst (by rw [← hW]; show 2 * 0 + _ ≤ _; omega) hd (fun _ _ => ⟨rfl, eT, hc, hs⟩)
  dsimp only [Pt.U, Pt.locs, Pt.cells, Pt.slots] at X' hS' hgr e1 e2 e3 hC st' hQ
  subst e1 e2 e3
  obtain ⟨hh, ⟨k0, hS, hk⟩, hC0⟩ := HH
  subst eT
  exact own_thru st' (k v T' Lc X' hQ (State.Warmed39.trans (t := s.setVm vm0) hZ hS'.1) (by rw [show (s.setVm T'.vm).vm = T'.vm from rfl, hS'.1.alike.findClass]; exact hown) ⟨hh, ⟨_, hS.trans hS' (Nat.le_trans hk hgr), Nat.le_refl _⟩, hC0.trans hC⟩ hC)
theorem own_virtualH (X : Stand p l e R (s.setVm vm0) m args below meth c T locs cells slots) (hx : p.tables.exec = Jvm.exec) (hZ : Z.Warmed39 (s.setVm vm0).vm) {own C : String} {index : Nat} {y z : MethodName} {bytes : ByteArray} {maxL : Nat} {ret : Option FieldType} {rm : Room} {Q : Option Value → Heap → List Loc → Prop} (hown : (s.setVm vm0).vm.findClass own = some m.cls) (w1 : (Jvm.Cond.methodLink own index y).before a0 Z = true) (w2 : (Jvm.Cond.declares y).before a0 Z = true) (hnf : NotFace (s.setVm vm0) y) (w3 : (Jvm.Cond.selects C y z).before a0 Z = true) (w4 : (Jvm.Cond.instanceMethod z).before a0 Z = true) (w5 : (Jvm.Cond.initialized z.cls).before a0 Z = true) (w6 : (Jvm.Cond.code z bytes maxL ret).before a0 Z = true) (hy : y.cls ≠ "java/lang/invoke/MethodHandle" ∧ y.cls ≠ "java/lang/invoke/VarHandle") (HH : own_H Z EL s h0 vm0 h) (hEL : EW Z a0 EL) (eT : T.heap = h) (hf : rm.frames + 1 ≤ R.frames) {W : Nat} (hl : W + (maxL + 11) + rm.locals ≤ R.locals) (hc : cells + rm.cells ≤ R.cells) (hs : slots + rm.slots ≤ R.slots) {pc pc' : Nat} {Ls : Array Slot} (argsL rest : List Value) {st : List Value} (hsize : Ls.size = c.maxLocals) {a : Addr} (E : Exa Z h a C) (hM : own_MetH l z bytes maxL ret rm Z EL (.ref a :: argsL).toArray h Q)
    {ps : List FieldType} {r : Option FieldType} (hpd : parseMethodDescriptor y.desc = some ⟨ps, r⟩) (hlen : argsL.length = ps.length) (hst : st = argsL.reverse ++ .ref a :: rest) (hW : (rest.map fun v => v.category).sum = W) (hd : decode c.code pc = .ok (.invokevirtual index, 3)) (hp : pc + 3 = pc') (k : ∀ v T' L, Stand p l e R (s.setVm T'.vm) m args below meth c T' (locs ++ L) (cells + rm.cells) (slots + rm.slots) → Q v T'.heap L → Z.Warmed39 (s.setVm T'.vm).vm → (s.setVm T'.vm).vm.findClass own = some m.cls → own_H Z EL s h0 T'.vm T'.heap → CHr Z EL vm0 h T'.vm T'.heap → own_Ends p e below Φ (T'.setTop (mkF m pc' Ls (v.toList ++ rest)))) : own_Ends p e below Φ (T.setTop (mkF m pc Ls st)) := by
  subst hp
  obtain ⟨cq, kq, q1, q2, q3⟩ := isOf hZ eT E
  obtain ⟨v, _, ⟨T', L', k', n'⟩, -, X', hS', hgr, ⟨Lc, hQ, e1, e2, e3, hC⟩, st'⟩ :=  X.virtualBackS hx (y := y) (z := z) hown (mvT hZ w1) (mvT hZ w2) hnf (mvT hZ w3) (mvT hZ w4) hy (backOfSH (s := s) (vm0 := vm0) (W := W) (hM []) hZ w6 w5 hf hl hEL HH.ch) q1 q3 (g := mkF m pc Ls st) rfl hsize (Steps.refl _) (argsL := argsL) (rest := rest) (lenOf hpd hlen) hst (by rw [← hW]; show 2 * 0 + _ ≤ _; omega) hd (fun _ _ => ⟨rfl, eT, hc, hs⟩)
  dsimp only [Pt.U, Pt.locs, Pt.cells, Pt.slots] at X' hS' hgr e1 e2 e3 hC st' hQ
  subst e1 e2 e3
  obtain ⟨hh, ⟨k0, hS, hk⟩, hC0⟩ := HH
  subst eT
  exact own_thru st' (k v T' Lc X' hQ (State.Warmed39.trans (t := s.setVm vm0) hZ hS'.1) (by rw [show (s.setVm T'.vm).vm = T'.vm from rfl, hS'.1.alike.findClass]; exact hown) ⟨hh, ⟨_, hS.trans hS' (Nat.le_trans hk hgr), Nat.le_refl _⟩, hC0.trans hC⟩ hC)
/-- ldc of a String literal, its text read -/
theorem own_ldcS (X : Stand p l e R (s.setVm vm0) m args below meth c T locs cells slots) (hx : p.tables.exec = Jvm.exec) (hZ : Z.Warmed39 (s.setVm vm0).vm) {own text : String} {index : Nat} (hown : (s.setVm vm0).vm.findClass own = some m.cls) (w : (Jvm.Cond.stringLink own index text).before a0 Z = true) (wS : ∀ a ∈ Bundle.stringAtoms, a.before a0 Z = true) (eT : T.heap = h) (HH : own_H Z EL s h0 vm0 h) (hEL : EW Z a0 EL) (hmem : (own, index) ∈ EL)
    {vs : List Value} {z : Int32} (ht : (∀ c ∈ text.toList, c.toNat < 256) ∧ text.toList.map (fun c => Value.int (Jvm.Lit.byteI c.toNat.toUInt16)) = vs) (hz : ¬ z < 0) (hl : z.toNatClampNeg = vs.length) {pc pc' : Nat} {Ls : Array Slot} {rest : List Value} (hd : decode c.code pc = .ok (.ldc index, 2)) (n : Nat) (hn : 4 * text.toList.length ≤ n) (hbig : n ≤ 536870912) (hc : cells + 2 ≤ R.cells) (hl' : slots + (n + 4) ≤ R.slots) (hp : pc + 2 = pc')
    (k : ∀ (a : Addr) (T' : State) (h' : Heap) (b : Addr) (kk : ClassId), Stand p l e R (s.setVm T'.vm) m args below meth c T' locs (cells + 2) (slots + (n + 4)) → T'.heap = h' → Ext h h' → Z.Warmed39 (s.setVm T'.vm).vm → (s.setVm T'.vm).vm.findClass own = some m.cls → own_H Z EL s h0 T'.vm h' → CHr Z EL vm0 h T'.vm h' → Exa Z h' a "java/lang/String" → Fld Z h' a "java/lang/String" "coder" "B" (.int 0) → Fld Z h' a "java/lang/String" "value" "[B" (.ref b) → Arv Z h' b kk .byte z vs (.int 0) → (∀ x, Safe Z EL T'.vm h' x → x ≠ a ∧ x ≠ b) → own_Ends p e below Φ (T'.setTop (mkF m pc' Ls (.ref a :: rest)))) : own_Ends p e below Φ (T.setTop (mkF m pc Ls rest)) := by
  subst hp
  obtain ⟨hh, ⟨k0, hS, hk⟩, hC0⟩ := HH
  obtain ⟨a, T', h', k1, b, kk, X', e', E', hS', hk', hZ', hown', A', c', v', V', -, -, hC, -, hne, st⟩ := ldcCH X hx hZ hown w wS eT hS hk hEL hmem hC0.1 ht hz hl (g := mkF m pc Ls rest) rfl hd hn hbig hc hl'
  exact own_via st (k a T' h' b kk X' e' E' hZ' hown' ⟨hh, ⟨k1, hS', hk'⟩, hC0.trans hC⟩ hC A' c' v' V' hne)
theorem own_retDH (X : Stand p l e R (s.setVm vm0) m args below meth c T locs cells slots) (hx : p.tables.exec = Jvm.exec) (hZ : Z.Warmed39 (s.setVm vm0).vm) (eT : T.heap = h) (HH : own_H Z EL s h0 vm0 h) (hEL : EW Z a0 EL) (hlocks : meth.locks = false) (hret : meth.sig.returnType = some .double) {pc : Nat} {Ls : Array Slot} {z : UInt64} {rest : List Value} (hd : decode c.code pc = .ok (.dreturn, 1)) {Q : Option Value → Heap → List Loc → Prop} {kc ks : Nat} (hc : cells ≤ kc) (hs : slots ≤ ks) (hq : Q (some (.double z)) T.heap locs) :
    own_Ends p e below (own_PostH Z EL s Q kc ks) (T.setTop (mkF m pc Ls (.double z :: rest))) :=
  own_leaveH X hlocks (v := some (.double z)) (fun h => by rw [hret] at h; cases h) hZ eT HH hEL hc hs hq (fun fs hr => retOut X hx hret (w := .double z) rfl (Or.inr (Or.inr (Or.inl ⟨rfl, rfl, z, rfl⟩))) hd hr)
end OwnKitH
section OwnKitB
variable {p : Program} {l : Launch} {e : Env} {R : Room} {s : State} {m : MethodId} {args : Array Value} {below : List Frame} {meth : Method} {c : Code} {T : State} {locs : List Loc} {cells slots : Nat} {Z : State} {a0 : Array Value} {h : Heap} {Φ : Outcome → State → Prop}
theorem own_staticB (X : Stand p l e R s m args below meth c T locs cells slots) (hx : p.tables.exec = Jvm.exec) (hZ : Z.Warmed39 s.vm) {own : String} {index : Nat} {y : MethodName} {bytes : ByteArray} {maxL : Nat} {ret : Option FieldType} (hown : s.vm.findClass own = some m.cls) (w1 : (Jvm.Cond.methodLink own index y).before a0 Z = true) (w2 : (Jvm.Cond.static y).before a0 Z = true) (w3 : (Jvm.Cond.initialized y.cls).before a0 Z = true) (w4 : (Jvm.Cond.code y bytes maxL ret).before a0 Z = true) (hy : y.cls ≠ "java/lang/invoke/MethodHandle" ∧ y.cls ≠ "java/lang/invoke/VarHandle") {ce sl : Nat} (eT : T.heap = h) {W : Nat} (hc : cells + ce ≤ R.cells) (hs : slots + sl ≤ R.slots) {pc pc' : Nat} {Ls : Array Slot} (argsL rest : List Value) {st : List Value} (hsize : Ls.size = c.maxLocals) (Q : Option Value → Heap → List Loc → Prop) (hK : Back l R p e below s args y 3 W (fun P a' => a' = argsL.toArray ∧ P.U.heap = h ∧ P.cells + ce ≤ R.cells ∧ P.slots + sl ≤ R.slots) (fun P _ v B => ∃ L, Q v B.U.heap L ∧ B.locs = P.locs ++ L ∧ B.cells = P.cells + ce ∧ B.slots = P.slots + sl))
    {ps : List FieldType} {r : Option FieldType} (hpd : parseMethodDescriptor y.desc = some ⟨ps, r⟩) (hlen : argsL.length = ps.length) (hst : st = argsL.reverse ++ rest) (hW : (rest.map fun v => v.category).sum = W) (hd : decode c.code pc = .ok (.invokestatic index, 3)) (hp : pc + 3 = pc') (k : ∀ v T' L, Stand p l e R s m args below meth c T' (locs ++ L) (cells + ce) (slots + sl) → Q v T'.heap L → own_Ends p e below Φ (T'.setTop (mkF m pc' Ls (v.toList ++ rest)))) : own_Ends p e below Φ (T.setTop (mkF m pc Ls st)) := by
  subst hp
  obtain ⟨v, _, ⟨T', L', k', n'⟩, -, X', ⟨Lc, hQ, e1, e2, e3⟩, st'⟩ :=  Jvm.LawKit.callS X hx (y := y) hown (mvT hZ w1) (mvT hZ w2) (mvT hZ w3) (mvT hZ w4) hy hK (g := mkF m pc Ls st) rfl hsize (argsL := argsL) (rest := rest) (lenOf hpd hlen) hst (by rw [← hW]; show 2 * 0 + _ ≤ _; omega) hd (fun _ _ => ⟨rfl, eT, hc, hs⟩)
  dsimp only [Pt.U, Pt.locs, Pt.cells, Pt.slots] at X' e1 e2 e3 st' hQ
  subst e1 e2 e3
  exact own_via st' (k v T' Lc X' hQ)
theorem own_specialB (X : Stand p l e R s m args below meth c T locs cells slots) (hx : p.tables.exec = Jvm.exec) (hZ : Z.Warmed39 s.vm) {own : String} {index : Nat} {y : MethodName} {bytes : ByteArray} {maxL : Nat} (hy1 : y.name = "<init>") (hown : s.vm.findClass own = some m.cls) (w1 : (Jvm.Cond.methodLink own index y).before a0 Z = true) (w2 : (Jvm.Cond.instanceMethod y).before a0 Z = true) (w4 : (Jvm.Cond.code y bytes maxL none).before a0 Z = true) (hy : y.cls ≠ "java/lang/invoke/MethodHandle" ∧ y.cls ≠ "java/lang/invoke/VarHandle") {ce sl : Nat} (eT : T.heap = h) {W : Nat} (hc : cells + ce ≤ R.cells) (hs : slots + sl ≤ R.slots) {pc pc' : Nat} {Ls : Array Slot} (argsL rest : List Value) {st : List Value} (hsize : Ls.size = c.maxLocals) {a : Addr} (Q : Option Value → Heap → List Loc → Prop) (hK : Back l R p e below s args y 3 W (fun P a' => a' = (.ref a :: argsL).toArray ∧ P.U.heap = h ∧ P.cells + ce ≤ R.cells ∧ P.slots + sl ≤ R.slots) (fun P _ v B => ∃ L, Q v B.U.heap L ∧ B.locs = P.locs ++ L ∧ B.cells = P.cells + ce ∧ B.slots = P.slots + sl))
    {ps : List FieldType} {r : Option FieldType} (hpd : parseMethodDescriptor y.desc = some ⟨ps, r⟩) (hlen : argsL.length = ps.length) (hst : st = argsL.reverse ++ .ref a :: rest) (hW : (rest.map fun v => v.category).sum = W) (hd : decode c.code pc = .ok (.invokespecial index, 3)) (hp : pc + 3 = pc') (k : ∀ v T' L, Stand p l e R s m args below meth c T' (locs ++ L) (cells + ce) (slots + sl) → Q v T'.heap L → own_Ends p e below Φ (T'.setTop (mkF m pc' Ls (v.toList ++ rest)))) : own_Ends p e below Φ (T.setTop (mkF m pc Ls st)) := by
  subst hp
  obtain ⟨v, _, ⟨T', L', k', n'⟩, -, X', ⟨Lc, hQ, e1, e2, e3⟩, st'⟩ :=  X.specialBack hx (y := y) hy1 hown (mvT hZ w1) (mvT hZ w2) (mvT hZ w4) hy hK (g := mkF m pc Ls st) rfl hsize (Steps.refl _) (a := a) (argsL := argsL) (rest := rest) (lenOf hpd hlen) hst (by rw [← hW]; show 2 * 0 + _ ≤ _; omega) hd (fun _ _ => ⟨rfl, eT, hc, hs⟩)
  dsimp only [Pt.U, Pt.locs, Pt.cells, Pt.slots] at X' e1 e2 e3 st' hQ
  subst e1 e2 e3
  exact own_thru st' (k v T' Lc X' hQ)
theorem own_virtualB (X : Stand p l e R s m args below meth c T locs cells slots) (hx : p.tables.exec = Jvm.exec) (hZ : Z.Warmed39 s.vm) {own C : String} {index : Nat} {y z : MethodName} (hown : s.vm.findClass own = some m.cls) (w1 : (Jvm.Cond.methodLink own index y).before a0 Z = true) (w2 : (Jvm.Cond.declares y).before a0 Z = true) (hnf : NotFace s y) (w3 : (Jvm.Cond.selects C y z).before a0 Z = true) (w4 : (Jvm.Cond.instanceMethod z).before a0 Z = true) (hy : y.cls ≠ "java/lang/invoke/MethodHandle" ∧ y.cls ≠ "java/lang/invoke/VarHandle") {ce sl : Nat} (eT : T.heap = h) {W : Nat} (hc : cells + ce ≤ R.cells) (hs : slots + sl ≤ R.slots) {pc pc' : Nat} {Ls : Array Slot} (argsL rest : List Value) {st : List Value} (hsize : Ls.size = c.maxLocals) {a : Addr} (E : Exa Z h a C) (Q : Option Value → Heap → List Loc → Prop) (hK : Back l R p e below s args z 3 W (fun P a' => a' = (.ref a :: argsL).toArray ∧ P.U.heap = h ∧ P.cells + ce ≤ R.cells ∧ P.slots + sl ≤ R.slots) (fun P _ v B => ∃ L, Q v B.U.heap L ∧ B.locs = P.locs ++ L ∧ B.cells = P.cells + ce ∧ B.slots = P.slots + sl))
    {ps : List FieldType} {r : Option FieldType} (hpd : parseMethodDescriptor y.desc = some ⟨ps, r⟩) (hlen : argsL.length = ps.length) (hst : st = argsL.reverse ++ .ref a :: rest) (hW : (rest.map fun v => v.category).sum = W) (hd : decode c.code pc = .ok (.invokevirtual index, 3)) (hp : pc + 3 = pc') (k : ∀ v T' L, Stand p l e R s m args below meth c T' (locs ++ L) (cells + ce) (slots + sl) → Q v T'.heap L → own_Ends p e below Φ (T'.setTop (mkF m pc' Ls (v.toList ++ rest)))) : own_Ends p e below Φ (T.setTop (mkF m pc Ls st)) := by
  subst hp
  obtain ⟨cq, kq, q1, q2, q3⟩ := isOf hZ eT E
  obtain ⟨v, _, ⟨T', L', k', n'⟩, -, X', ⟨Lc, hQ, e1, e2, e3⟩, st'⟩ :=  X.virtualBack hx (y := y) (z := z) hown (mvT hZ w1) (mvT hZ w2) hnf (mvT hZ w3) (mvT hZ w4) hy hK q1 q3 (g := mkF m pc Ls st) rfl hsize (Steps.refl _) (argsL := argsL) (rest := rest) (lenOf hpd hlen) hst (by rw [← hW]; show 2 * 0 + _ ≤ _; omega) hd (fun _ _ => ⟨rfl, eT, hc, hs⟩)
  dsimp only [Pt.U, Pt.locs, Pt.cells, Pt.slots] at X' e1 e2 e3 st' hQ
  subst e1 e2 e3
  exact own_thru st' (k v T' Lc X' hQ)
theorem own_iface (X : Stand p l e R s m args below meth c T locs cells slots) (hx : p.tables.exec = Jvm.exec) (hZ : Z.Warmed39 s.vm) {own C : String} {index count : Nat} {xi y : MethodName} {bytes : ByteArray} {maxL : Nat} {ret : Option FieldType} {rm : Room} {Q : Option Value → Heap → List Loc → Prop} (hown : s.vm.findClass own = some m.cls) (w1 : (Jvm.Cond.methodLink own index xi).before a0 Z = true) (w2 : (Jvm.Cond.declares xi).before a0 Z = true) (wf : (Jvm.Cond.interfaceMethod xi.cls xi.cls xi.name xi.desc).before args s = true) (w3 : (Jvm.Cond.selects C xi y).before a0 Z = true) (w4 : (Jvm.Cond.instanceMethod y).before a0 Z = true) (wp : (Jvm.Cond.publicMethod y).before a0 Z = true) (wu : (Jvm.Cond.unhidden C xi.name xi.desc).before a0 Z = true) (wc : (Jvm.Cond.castable C xi.cls).before a0 Z = true) (w5 : (Jvm.Cond.initialized y.cls).before a0 Z = true) (w6 : (Jvm.Cond.code y bytes maxL ret).before a0 Z = true) (hy : xi.cls ≠ "java/lang/invoke/MethodHandle" ∧ xi.cls ≠ "java/lang/invoke/VarHandle") (eT : T.heap = h) (hf : rm.frames + 1 ≤ R.frames) {W : Nat} (hl : W + (maxL + 11) + rm.locals ≤ R.locals) (hc : cells + rm.cells ≤ R.cells) (hs : slots + rm.slots ≤ R.slots) {pc pc' : Nat} {Ls : Array Slot} (argsL rest : List Value) {st : List Value} (hsize : Ls.size = c.maxLocals) {a : Addr} (E : Exa Z h a C) (hM : own_Met l y bytes maxL ret rm Z (.ref a :: argsL).toArray h Q)
    {ps : List FieldType} {r : Option FieldType} (hpd : parseMethodDescriptor xi.desc = some ⟨ps, r⟩) (hlen : argsL.length = ps.length) (hst : st = argsL.reverse ++ .ref a :: rest) (hW : (rest.map fun v => v.category).sum = W) (hd : decode c.code pc = .ok (.invokeinterface index count, 5)) (hp : pc + 5 = pc') (k : ∀ v T' L, Stand p l e R s m args below meth c T' (locs ++ L) (cells + rm.cells) (slots + rm.slots) → Q v T'.heap L → own_Ends p e below Φ (T'.setTop (mkF m pc' Ls (v.toList ++ rest)))) : own_Ends p e below Φ (T.setTop (mkF m pc Ls st)) := by
  subst hp
  obtain ⟨cq, kq, q1, q2, q3⟩ := isOf hZ eT E
  obtain ⟨v, _, ⟨T', L', k', n'⟩, -, X', ⟨Lc, hQ, e1, e2, e3⟩, st'⟩ :=  X.interfaceBack hx (xi := xi) (y := y) hown (mvT hZ w1) (mvT hZ w2) wf (mvT hZ w3) (mvT hZ w4) (mvT hZ wp) (mvT hZ wu) (mvT hZ wc) hy (backOf (W := W) (hM []) hZ w6 w5 hf hl) q1 q2 q3 (g := mkF m pc Ls st) rfl hsize (Steps.refl _) (argsL := argsL) (rest := rest) (lenOf hpd hlen) hst (by rw [← hW]; show 2 * 0 + _ ≤ _; omega) hd (fun _ _ => ⟨rfl, eT, hc, hs⟩)
  dsimp only [Pt.U, Pt.locs, Pt.cells, Pt.slots] at X' e1 e2 e3 st' hQ
  subst e1 e2 e3
  exact own_thru st' (k v T' Lc X' hQ)
theorem own_insK {h' : Heap} {a : Addr} {C : String} {b : Bool} {ws : List Addr} (F : Ins Z h a C b) (K : Keep h h' ws) : Ins Z h' a C b := by
  obtain ⟨cell, cT, h1, h2, h3⟩ := F
  obtain ⟨c', q, r1, r2, -⟩ := K.2.2 a cell h1
  exact ⟨c', cT, q, h2, by rw [r1, r2]; exact h3⟩
end OwnKitB
section OwnKitA
variable {p : Program} {l : Launch} {e : Env} {R : Room} {s : State} {m : MethodId} {args : Array Value} {below : List Frame} {meth : Method} {c : Code} {T : State} {locs : List Loc} {cells slots : Nat} {Z : State} {a0 : Array Value} {h : Heap} {Φ : Outcome → State → Prop}
theorem own_newP (X : Stand p l e R s m args below meth c T locs cells slots) (hx : p.tables.exec = Jvm.exec) (hZ : Z.Warmed39 s.vm) {aty : ArrayType} (w : (Jvm.Cond.arrayClass (newarray.typeOf aty)).before a0 Z = true) (eT : T.heap = h) {pc pc' : Nat} {Ls : Array Slot} {rest : List Value} {n : Int32} (hd : decode c.code pc = .ok (.newarray aty, 2)) (hn : ¬ n < 0) (cap : Nat) (hcap : n.toNatClampNeg ≤ cap) (hb : cap * 8 ≤ 536870912) (hc : cells + 1 ≤ R.cells) (hl : slots + cap ≤ R.slots) (hp : pc + 2 = pc')
    (k : ∀ T' h' b kk, Stand p l e R s m args below meth c T' locs (cells + 1) (slots + cap) → T'.heap = h' → b = h.size → Ext h h' → Arv Z h' b kk (newarray.typeOf aty) n [] (defaultValue (newarray.typeOf aty)) → own_Ends p e below Φ (T'.setTop (mkF m pc' Ls (.ref b :: rest)))) : own_Ends p e below Φ (T.setTop (mkF m pc Ls (.int n :: rest))) := by
  subst hp; obtain ⟨T', h', cA, X', e', E', A', st⟩ := newP X hx hZ w eT (g := mkF m pc Ls (.int n :: rest)) rfl hd rfl hn hcap hb hc hl
  exact own_via st (k T' h' _ cA X' e' rfl E' (Arv.new A' hn))
theorem own_stC (X : Stand p l e R s m args below meth c T locs cells slots) (hx : p.tables.exec = Jvm.exec) (hZ : Z.Warmed39 s.vm) (eT : T.heap = h) {a : Addr} {kk : ClassId} {z : Int32} {vs : List Value} {dv : Value} (A : Arv Z h a kk .char z vs dv) {j : Int32} {x : Int32} (hj : ¬ j < 0 ∧ j < z) (i : Nat) (hi : j.toNatClampNeg = i) (hlen : i < vs.length) (hn : nar .char x = x) {n0 : Nat} (N : Fr n0 locs) (g : n0 ≤ a) {pc pc' : Nat} {Ls : Array Slot} {rest : List Value} (hd : decode c.code pc = .ok (.castore, 1)) (hp : pc + 1 = pc')
    (k : ∀ T' h', Stand p l e R s m args below meth c T' (locs ++ [⟨a, j.toNatClampNeg⟩]) cells slots → T'.heap = h' → Wr h h' a j.toNatClampNeg (.int x) → Fr n0 (locs ++ [⟨a, j.toNatClampNeg⟩]) → Arv Z h' a kk .char z (vs.set i (.int x)) dv → own_Ends p e below Φ (T'.setTop (mkF m pc' Ls rest))) : own_Ends p e below Φ (T.setTop (mkF m pc Ls (.int x :: .int j :: .ref a :: rest))) := by
  subst hp; obtain ⟨cl, Ar, q, S, Nn, H, G⟩ := A
  obtain ⟨T', h', X', e', W', st⟩ := Jvm.RoadKit.stC X hx hZ eT Ar (j := j) (x := x) (inb_of S hj) (g := mkF m pc Ls (.int x :: .int j :: .ref a :: rest)) rfl rfl hd
  have W' : Wr h h' a j.toNatClampNeg (.int (nar .char x)) := W'
  have hf := fits_nar_char x
  rw [hn] at W' hf
  exact own_via st (k T' h' X' e' W' (Fr.snoc X' N g) (Arv.set Ar q S Nn H G hf W' i hi hlen))
theorem own_stI (X : Stand p l e R s m args below meth c T locs cells slots) (hx : p.tables.exec = Jvm.exec) (hZ : Z.Warmed39 s.vm) (eT : T.heap = h) {a : Addr} {kk : ClassId} {z : Int32} {vs : List Value} {dv : Value} (A : Arv Z h a kk .int z vs dv) {j : Int32} {x : Int32} (hj : ¬ j < 0 ∧ j < z) (i : Nat) (hi : j.toNatClampNeg = i) (hlen : i < vs.length) {n0 : Nat} (N : Fr n0 locs) (g : n0 ≤ a) {pc pc' : Nat} {Ls : Array Slot} {rest : List Value} (hd : decode c.code pc = .ok (.iastore, 1)) (hp : pc + 1 = pc')
    (k : ∀ T' h', Stand p l e R s m args below meth c T' (locs ++ [⟨a, j.toNatClampNeg⟩]) cells slots → T'.heap = h' → Wr h h' a j.toNatClampNeg (.int x) → Fr n0 (locs ++ [⟨a, j.toNatClampNeg⟩]) → Arv Z h' a kk .int z (vs.set i (.int x)) dv → own_Ends p e below Φ (T'.setTop (mkF m pc' Ls rest))) : own_Ends p e below Φ (T.setTop (mkF m pc Ls (.int x :: .int j :: .ref a :: rest))) := by
  subst hp; obtain ⟨cl, Ar, q, S, Nn, H, G⟩ := A
  obtain ⟨T', h', X', e', W', st⟩ := Jvm.RoadKit.stI X hx hZ eT Ar (j := j) (x := x) (inb_of S hj) (g := mkF m pc Ls (.int x :: .int j :: .ref a :: rest)) rfl rfl hd
  skip
  exact own_via st (k T' h' X' e' W' (Fr.snoc X' N g) (Arv.set Ar q S Nn H G rfl W' i hi hlen))
theorem own_stB (X : Stand p l e R s m args below meth c T locs cells slots) (hx : p.tables.exec = Jvm.exec) (hZ : Z.Warmed39 s.vm) (eT : T.heap = h) {a : Addr} {kk : ClassId} {z : Int32} {vs : List Value} {dv : Value} (A : Arv Z h a kk .byte z vs dv) {j : Int32} {x : Int32} (hj : ¬ j < 0 ∧ j < z) (i : Nat) (hi : j.toNatClampNeg = i) (hlen : i < vs.length) (hn : x.toInt8.toInt32 = x) {n0 : Nat} (N : Fr n0 locs) (g : n0 ≤ a) {pc pc' : Nat} {Ls : Array Slot} {rest : List Value} (hd : decode c.code pc = .ok (.bastore, 1)) (hp : pc + 1 = pc')
    (k : ∀ T' h', Stand p l e R s m args below meth c T' (locs ++ [⟨a, j.toNatClampNeg⟩]) cells slots → T'.heap = h' → Wr h h' a j.toNatClampNeg (.int x) → Fr n0 (locs ++ [⟨a, j.toNatClampNeg⟩]) → Arv Z h' a kk .byte z (vs.set i (.int x)) dv → own_Ends p e below Φ (T'.setTop (mkF m pc' Ls rest))) : own_Ends p e below Φ (T.setTop (mkF m pc Ls (.int x :: .int j :: .ref a :: rest))) := by
  subst hp; obtain ⟨cl, Ar, q, S, Nn, H, G⟩ := A
  obtain ⟨T', h', X', e', W', st⟩ := Jvm.RoadKit.stB X hx hZ eT Ar (j := j) (x := x) (inb_of S hj) (g := mkF m pc Ls (.int x :: .int j :: .ref a :: rest)) rfl rfl hd
  have W' : Wr h h' a j.toNatClampNeg (.int x.toInt8.toInt32) := W'
  have hf := fits_nar_byte x
  rw [hn] at W' hf
  exact own_via st (k T' h' X' e' W' (Fr.snoc X' N g) (Arv.set Ar q S Nn H G hf W' i hi hlen))
theorem own_stR (X : Stand p l e R s m args below meth c T locs cells slots) (hx : p.tables.exec = Jvm.exec) (hZ : Z.Warmed39 s.vm) (eT : T.heap = h) {a : Addr} {kk : ClassId} {z : Int32} {ty : FieldType} {vs : List Value} {dv : Value} (A : Arv Z h a kk ty z vs dv) (hty : ty.isReference = true) {j : Int32} {v : Value} (hv : fits ty v = true) (F : Sto Z h a v) (hj : ¬ j < 0 ∧ j < z) (i : Nat) (hi : j.toNatClampNeg = i) (hlen : i < vs.length) {n0 : Nat} (N : Fr n0 locs) (g : n0 ≤ a) {pc pc' : Nat} {Ls : Array Slot} {rest : List Value} (hd : decode c.code pc = .ok (.aastore, 1)) (hp : pc + 1 = pc')
    (k : ∀ T' h', Stand p l e R s m args below meth c T' (locs ++ [⟨a, j.toNatClampNeg⟩]) cells slots → T'.heap = h' → Wr h h' a j.toNatClampNeg v → Fr n0 (locs ++ [⟨a, j.toNatClampNeg⟩]) → Arv Z h' a kk ty z (vs.set i v) dv → own_Ends p e below Φ (T'.setTop (mkF m pc' Ls rest))) : own_Ends p e below Φ (T.setTop (mkF m pc Ls (v :: .int j :: .ref a :: rest))) := by
  subst hp; obtain ⟨cl, Ar, q, S, Nn, H, G⟩ := A
  obtain ⟨T', h', X', e', W', st⟩ := Jvm.RoadKit.stR X hx hZ eT Ar (j := j) (inb_of S hj) hty F (g := mkF m pc Ls (v :: .int j :: .ref a :: rest)) rfl rfl hd
  exact own_via st (k T' h' X' e' W' (Fr.snoc X' N g) (Arv.set Ar q S Nn H G hv W' i hi hlen))
theorem own_newR (X : Stand p l e R s m args below meth c T locs cells slots) (hx : p.tables.exec = Jvm.exec) (hZ : Z.Warmed39 s.vm) {own C : String} {index : Nat} (hown : s.vm.findClass own = some m.cls) (w1 : (Jvm.Cond.classLink own index C).before a0 Z = true) (w2 : (Jvm.Cond.arrayOver (.object C)).before a0 Z = true) (eT : T.heap = h) {pc pc' : Nat} {Ls : Array Slot} {rest : List Value} {n : Int32} (hd : decode c.code pc = .ok (.anewarray index, 3)) (hn : ¬ n < 0) (cap : Nat) (hcap : n.toNatClampNeg ≤ cap) (hb : cap * 8 ≤ 536870912) (hc : cells + 1 ≤ R.cells) (hl : slots + cap ≤ R.slots) (hp : pc + 3 = pc')
    (k : ∀ T' h' b kk, Stand p l e R s m args below meth c T' locs (cells + 1) (slots + cap) → T'.heap = h' → b = h.size → Ext h h' → Arv Z h' b kk (.object C) n [] .null → Ovr Z kk C → own_Ends p e below Φ (T'.setTop (mkF m pc' Ls (.ref b :: rest)))) : own_Ends p e below Φ (T.setTop (mkF m pc Ls (.int n :: rest))) := by
  subst hp; obtain ⟨T', h', cA, X', e', E', A', O', st⟩ := newR X hx hZ hown w1 w2 eT (g := mkF m pc Ls (.int n :: rest)) rfl hd rfl hn hcap hb hc hl
  exact own_via st (k T' h' _ cA X' e' rfl E' (Arv.new A' hn) O')
theorem own_arraylength (X : Stand p l e R s m args below meth c T locs cells slots) (hx : p.tables.exec = Jvm.exec) (hZ : Z.Warmed39 s.vm) (eT : T.heap = h) {a : Addr} {kk : ClassId} {z : Int32} {ty : FieldType} {vs : List Value} {dv : Value} (A : Arv Z h a kk ty z vs dv) {pc pc' : Nat} {Ls : Array Slot} {rest : List Value} (hd : decode c.code pc = .ok (.arraylength, 1)) (hp : pc + 1 = pc') (k : own_Ends p e below Φ (T.setTop (mkF m pc' Ls (.int z :: rest)))) : own_Ends p e below Φ (T.setTop (mkF m pc Ls (.ref a :: rest))) := by
  subst hp; obtain ⟨cl, Ar, q, S, Nn, H, G⟩ := A
  refine own_via (X.arraylength hx (by rw [eT]; exact Ar.1) (State.isArrayOf_alike hZ.alike Ar.2.1) (g := mkF m pc Ls (.ref a :: rest)) rfl rfl hd) ?_
  rw [len_of S Nn]; exact k
theorem own_iaload (X : Stand p l e R s m args below meth c T locs cells slots) (hx : p.tables.exec = Jvm.exec) (hZ : Z.Warmed39 s.vm) (eT : T.heap = h) {a : Addr} {kk : ClassId} {z : Int32} {vs : List Value} {dv : Value} (A : Arv Z h a kk .int z vs dv) {j : Int32} {x : Int32} (hj : ¬ j < 0 ∧ j < z) (hv : vs.getD j.toNatClampNeg dv = .int x) {pc pc' : Nat} {Ls : Array Slot} {rest : List Value} (hd : decode c.code pc = .ok (.iaload, 1)) (hp : pc + 1 = pc') (k : own_Ends p e below Φ (T.setTop (mkF m pc' Ls (.int x :: rest)))) : own_Ends p e below Φ (T.setTop (mkF m pc Ls (.int j :: .ref a :: rest))) := by
  subst hp; obtain ⟨cl, Ar, q, S, Nn, H, G⟩ := A
  exact own_via (X.iaload hx (j := j) (v := .int x) (by rw [eT]; exact Ar.1) (State.isArrayOf_alike hZ.alike Ar.2.1) Ar.2.2 (inb_of S hj) (H.at (inb_of S hj) hv) (g := mkF m pc Ls (.int j :: .ref a :: rest)) rfl rfl hd) k
theorem own_caload (X : Stand p l e R s m args below meth c T locs cells slots) (hx : p.tables.exec = Jvm.exec) (hZ : Z.Warmed39 s.vm) (eT : T.heap = h) {a : Addr} {kk : ClassId} {z : Int32} {vs : List Value} {dv : Value} (A : Arv Z h a kk .char z vs dv) {j : Int32} {x : Int32} (hj : ¬ j < 0 ∧ j < z) (hv : vs.getD j.toNatClampNeg dv = .int x) {pc pc' : Nat} {Ls : Array Slot} {rest : List Value} (hd : decode c.code pc = .ok (.caload, 1)) (hp : pc + 1 = pc') (k : own_Ends p e below Φ (T.setTop (mkF m pc' Ls (.int x :: rest)))) : own_Ends p e below Φ (T.setTop (mkF m pc Ls (.int j :: .ref a :: rest))) := by
  subst hp; obtain ⟨cl, Ar, q, S, Nn, H, G⟩ := A
  exact own_via (X.caload hx (j := j) (v := .int x) (by rw [eT]; exact Ar.1) (State.isArrayOf_alike hZ.alike Ar.2.1) Ar.2.2 (inb_of S hj) (H.at (inb_of S hj) hv) (g := mkF m pc Ls (.int j :: .ref a :: rest)) rfl rfl hd) k
theorem own_baloadBytes (X : Stand p l e R s m args below meth c T locs cells slots) (hx : p.tables.exec = Jvm.exec) (hZ : Z.Warmed39 s.vm) (eT : T.heap = h) {a : Addr} {kk : ClassId} {z : Int32} {vs : List Value} {dv : Value} (A : Arv Z h a kk .byte z vs dv) {j : Int32} {x : Int32} (hj : ¬ j < 0 ∧ j < z) (hv : vs.getD j.toNatClampNeg dv = .int x) {pc pc' : Nat} {Ls : Array Slot} {rest : List Value} (hd : decode c.code pc = .ok (.baload, 1)) (hp : pc + 1 = pc') (k : own_Ends p e below Φ (T.setTop (mkF m pc' Ls (.int x :: rest)))) : own_Ends p e below Φ (T.setTop (mkF m pc Ls (.int j :: .ref a :: rest))) := by
  subst hp; obtain ⟨cl, Ar, q, S, Nn, H, G⟩ := A
  exact own_via (X.baloadBytes hx (j := j) (v := .int x) (by rw [eT]; exact Ar.1) (State.isArrayOf_alike hZ.alike Ar.2.1) Ar.2.2 (inb_of S hj) (H.at (inb_of S hj) hv) (g := mkF m pc Ls (.int j :: .ref a :: rest)) rfl rfl hd) k
theorem own_aaload (X : Stand p l e R s m args below meth c T locs cells slots) (hx : p.tables.exec = Jvm.exec) (hZ : Z.Warmed39 s.vm) (eT : T.heap = h) {a : Addr} {kk : ClassId} {z : Int32} {ty : FieldType} (hty : ty.isReference = true) {vs : List Value} {dv : Value} (A : Arv Z h a kk ty z vs dv) {j : Int32} {v : Value} (hj : ¬ j < 0 ∧ j < z) (hv : vs.getD j.toNatClampNeg dv = v) {pc pc' : Nat} {Ls : Array Slot} {rest : List Value} (hd : decode c.code pc = .ok (.aaload, 1)) (hp : pc + 1 = pc') (k : own_Ends p e below Φ (T.setTop (mkF m pc' Ls (v :: rest)))) : own_Ends p e below Φ (T.setTop (mkF m pc Ls (.int j :: .ref a :: rest))) := by
  subst hp; obtain ⟨cl, Ar, q, S, Nn, H, G⟩ := A
  exact own_via (X.aaload hx (j := j) (v := v) (by rw [eT]; exact Ar.1) (State.isArrayOf_alike hZ.alike Ar.2.1) hty Ar.2.2 (inb_of S hj) (H.at (inb_of S hj) hv) (g := mkF m pc Ls (.int j :: .ref a :: rest)) rfl rfl hd) k
theorem own_castY (X : Stand p l e R s m args below meth c T locs cells slots) (hx : p.tables.exec = Jvm.exec) (hZ : Z.Warmed39 s.vm) {own C : String} {index : Nat} (hown : s.vm.findClass own = some m.cls) (w : (Jvm.Cond.classLink own index C).before a0 Z = true) (eT : T.heap = h) {a : Addr} (F : Ins Z h a C true) {pc pc' : Nat} {Ls : Array Slot} {rest : List Value} (hd : decode c.code pc = .ok (.checkcast index, 3)) (hp : pc + 3 = pc') (k : ∀ T', Stand p l e R s m args below meth c T' locs cells slots → T'.heap = h → own_Ends p e below Φ (T'.setTop (mkF m pc' Ls (.ref a :: rest)))) : own_Ends p e below Φ (T.setTop (mkF m pc Ls (.ref a :: rest))) := by
  subst hp; obtain ⟨T', X', e', st⟩ := castY X hx hZ hown w eT F (g := mkF m pc Ls (.ref a :: rest)) rfl rfl hd
  exact own_via st (k T' X' e')
theorem own_castN (X : Stand p l e R s m args below meth c T locs cells slots) (hx : p.tables.exec = Jvm.exec) {index : Nat} {pc pc' : Nat} {Ls : Array Slot} {rest : List Value} (hd : decode c.code pc = .ok (.checkcast index, 3)) (hp : pc + 3 = pc') (k : own_Ends p e below Φ (T.setTop (mkF m pc' Ls (.null :: rest)))) : own_Ends p e below Φ (T.setTop (mkF m pc Ls (.null :: rest))) := by
  subst hp; exact own_via (fun _ q => X.checkcastNull hx (g := mkF m pc Ls (.null :: rest)) rfl rfl hd _ q) k
theorem own_instY (X : Stand p l e R s m args below meth c T locs cells slots) (hx : p.tables.exec = Jvm.exec) (hZ : Z.Warmed39 s.vm) {own C : String} {index : Nat} (hown : s.vm.findClass own = some m.cls) (w : (Jvm.Cond.classLink own index C).before a0 Z = true) (eT : T.heap = h) {a : Addr} (F : Ins Z h a C true) {pc pc' : Nat} {Ls : Array Slot} {rest : List Value} (hd : decode c.code pc = .ok (.instanceof index, 3)) (hp : pc + 3 = pc') (k : ∀ T', Stand p l e R s m args below meth c T' locs cells slots → T'.heap = h → own_Ends p e below Φ (T'.setTop (mkF m pc' Ls (.int 1 :: rest)))) : own_Ends p e below Φ (T.setTop (mkF m pc Ls (.ref a :: rest))) := by
  subst hp; obtain ⟨T', X', e', st⟩ := instY X hx hZ hown w eT F (g := mkF m pc Ls (.ref a :: rest)) rfl rfl hd
  exact own_via st (k T' X' e')
theorem own_instNull (X : Stand p l e R s m args below meth c T locs cells slots) (hx : p.tables.exec = Jvm.exec) {index : Nat} {pc pc' : Nat} {Ls : Array Slot} {rest : List Value} (hd : decode c.code pc = .ok (.instanceof index, 3)) (hp : pc + 3 = pc') (k : own_Ends p e below Φ (T.setTop (mkF m pc' Ls (.int 0 :: rest)))) : own_Ends p e below Φ (T.setTop (mkF m pc Ls (.null :: rest))) := by
  subst hp; exact own_via (fun _ q => X.instanceofNull hx (g := mkF m pc Ls (.null :: rest)) rfl rfl hd _ q) k
theorem own_instN (X : Stand p l e R s m args below meth c T locs cells slots) (hx : p.tables.exec = Jvm.exec) (hZ : Z.Warmed39 s.vm) {own K C : String} {index : Nat} (hown : s.vm.findClass own = some m.cls) (w : (Jvm.Cond.classLink own index K).before a0 Z = true) (eT : T.heap = h) {a : Addr} (E : Exa Z h a C) (F : ∃ c t, Z.vm.findClass C = some c ∧ Z.vm.findClass K = some t ∧ Z.vm.assignable c t = false) {pc pc' : Nat} {Ls : Array Slot} {rest : List Value} (hd : decode c.code pc = .ok (.instanceof index, 3)) (hp : pc + 3 = pc') (k : ∀ T', Stand p l e R s m args below meth c T' locs cells slots → T'.heap = h → own_Ends p e below Φ (T'.setTop (mkF m pc' Ls (.int 0 :: rest)))) : own_Ends p e below Φ (T.setTop (mkF m pc Ls (.ref a :: rest))) := by
  subst hp; obtain ⟨T', X', e', st⟩ := instNo X hx hZ hown w eT E F (g := mkF m pc Ls (.ref a :: rest)) rfl rfl hd
  exact own_via st (k T' X' e')
theorem own_neV {a b : Addr} {k1 k2 : ClassId} {t1 t2 : FieldType} {z1 z2 : Int32} {v1 v2 : List Value} {d1 d2 : Value} (A : Arv Z h a k1 t1 z1 v1 d1) (B : Arv Z h b k2 t2 z2 v2 d2) (hn : t1 ≠ t2) : a ≠ b := fun e => by
  subst e
  obtain ⟨c1, A1, -⟩ := A
  obtain ⟨c2, B1, -⟩ := B
  cases A1.1.symm.trans B1.1
  obtain ⟨-, k3, j1, comp, j2⟩ := A1.2.1
  obtain ⟨-, k4, i1, comp', i2⟩ := B1.2.1
  cases j1.symm.trans i1
  have := j2.symm.trans i2
  injection this with _ q
  exact hn q
theorem own_sto {a y : Addr} {kk : ClassId} {ty : FieldType} {z : Int32} {vs : List Value} {dv : Value} {C : String} (A : Arv Z h a kk ty z vs dv) (O : Ovr Z kk C) (I : Ins Z h y C true) : Sto Z h a (.ref y) := by
  obtain ⟨cl, Ar, q, -⟩ := A
  exact Sto.ofV Ar q O I
theorem own_ldcDouble (X : Stand p l e R s m args below meth c T locs cells slots) (hx : p.tables.exec = Jvm.exec) (hZ : Z.Warmed39 s.vm) {own : String} {index : Nat} {v : UInt64} (hown : s.vm.findClass own = some m.cls) (w : (Jvm.Cond.constantDouble own index v).before a0 Z = true) {pc pc' : Nat} {Ls : Array Slot} {rest : List Value} (hd : decode c.code pc = .ok (.ldc2_w index, 3)) (hp : pc + 3 = pc') (h : own_Ends p e below Φ (T.setTop (mkF m pc' Ls (.double v :: rest)))) : own_Ends p e below Φ (T.setTop (mkF m pc Ls rest)) := by
  subst hp; exact own_via (X.ldc2DoubleC hx hown (mvT hZ w) (g := mkF m pc Ls rest) rfl hd) h
theorem own_dcmp (X : Stand p l e R s m args below meth c T locs cells slots) (hx : p.tables.exec = Jvm.exec) {pc pc' : Nat} {Ls : Array Slot} {rest : List Value} {o : CmpOp} {x y : UInt64} (v : Int32) (hd : decode c.code pc = .ok (.dcmp o, 1)) (hv : cmpValue (FP.dcmp x y) o = v) (hp : pc + 1 = pc') (h : own_Ends p e below Φ (T.setTop (mkF m pc' Ls (.int v :: rest)))) : own_Ends p e below Φ (T.setTop (mkF m pc Ls (.double y :: .double x :: rest))) := by
  subst hp; exact own_via (fun _ k => XS.dcmpS X.here hx (g := mkF m pc Ls (.double y :: .double x :: rest)) rfl hd rfl hv k) h
theorem own_dload (X : Stand p l e R s m args below meth c T locs cells slots) (hx : p.tables.exec = Jvm.exec) {pc pc' : Nat} {Ls : Array Slot} {rest : List Value} {k : Nat} {v : UInt64} (hd : decode c.code pc = .ok (.dload k, 2)) (hl : Ls[k]? = some (.val (.double v))) (hp : pc + 2 = pc') (h : own_Ends p e below Φ (T.setTop (mkF m pc' Ls (.double v :: rest)))) : own_Ends p e below Φ (T.setTop (mkF m pc Ls rest)) := by
  subst hp; exact own_via (fun _ k => XS.dload X.here hx (g := mkF m pc Ls rest) rfl hd hl k) h
theorem own_dloadN (X : Stand p l e R s m args below meth c T locs cells slots) (hx : p.tables.exec = Jvm.exec) {pc pc' : Nat} {Ls : Array Slot} {rest : List Value} {k : Fin 4} {v : UInt64} (hd : decode c.code pc = .ok (.dload_n k, 1)) (hl : Ls[k.val]? = some (.val (.double v))) (hp : pc + 1 = pc') (h : own_Ends p e below Φ (T.setTop (mkF m pc' Ls (.double v :: rest)))) : own_Ends p e below Φ (T.setTop (mkF m pc Ls rest)) := by
  subst hp; exact own_via (fun _ k => XS.dloadN X.here hx (g := mkF m pc Ls rest) rfl hd hl k) h
theorem own_dstore (X : Stand p l e R s m args below meth c T locs cells slots) (hx : p.tables.exec = Jvm.exec) {pc pc' : Nat} {Ls : Array Slot} {rest : List Value} {k : Nat} {v : UInt64} (Ls' : Array Slot) (hd : decode c.code pc = .ok (.dstore k, 2)) (hl : storeLocals Ls k (.double v) = some Ls') (hp : pc + 2 = pc') (h : own_Ends p e below Φ (T.setTop (mkF m pc' Ls' rest))) : own_Ends p e below Φ (T.setTop (mkF m pc Ls (.double v :: rest))) := by
  subst hp; exact own_via (fun _ k => XS.dstore X.here hx (g := mkF m pc Ls (.double v :: rest)) rfl hd rfl hl k) h
theorem own_dstoreN (X : Stand p l e R s m args below meth c T locs cells slots) (hx : p.tables.exec = Jvm.exec) {pc pc' : Nat} {Ls : Array Slot} {rest : List Value} {k : Fin 4} {v : UInt64} (Ls' : Array Slot) (hd : decode c.code pc = .ok (.dstore_n k, 1)) (hl : storeLocals Ls k.val (.double v) = some Ls') (hp : pc + 1 = pc') (h : own_Ends p e below Φ (T.setTop (mkF m pc' Ls' rest))) : own_Ends p e below Φ (T.setTop (mkF m pc Ls (.double v :: rest))) := by
  subst hp; exact own_via (fun _ k => XS.dstoreN X.here hx (g := mkF m pc Ls (.double v :: rest)) rfl hd rfl hl k) h
theorem own_ldcLong (X : Stand p l e R s m args below meth c T locs cells slots) (hx : p.tables.exec = Jvm.exec) (hZ : Z.Warmed39 s.vm) {own : String} {index : Nat} {v : Int64} (hown : s.vm.findClass own = some m.cls) (w : (Jvm.Cond.constantLong own index v).before a0 Z = true) {pc pc' : Nat} {Ls : Array Slot} {rest : List Value} (hd : decode c.code pc = .ok (.ldc2_w index, 3)) (hp : pc + 3 = pc') (h : own_Ends p e below Φ (T.setTop (mkF m pc' Ls (.long v :: rest)))) : own_Ends p e below Φ (T.setTop (mkF m pc Ls rest)) := by
  subst hp; exact own_via (X.ldc2Long hx hown (mvT hZ w) (g := mkF m pc Ls rest) rfl hd) h
theorem own_lswHit (X : Stand p l e R s m args below meth c T locs cells slots) (hx : p.tables.exec = Jvm.exec) {pc pc' len : Nat} {Ls : Array Slot} {rest : List Value} {k : Int32} {df : Int} {prs : Array (Int × Int)} {a off : Int} (hd : decode c.code pc = .ok (.lookupswitch df prs, len)) (hs : (prs.toList.zip (prs.toList.drop 1)).all (fun (a, next) => a.1 < next.1) = true) (hf : prs.find? (·.1 == k.toInt) = some (a, off)) (ho : 0 ≤ (pc : Int) + off) (hp : ((pc : Int) + off).toNat = pc') (h : own_Ends p e below Φ (T.setTop (mkF m pc' Ls rest))) : own_Ends p e below Φ (T.setTop (mkF m pc Ls (.int k :: rest))) := by
  subst hp; exact own_via (fun _ q => X.lookupswitchHit hx (g := mkF m pc Ls (.int k :: rest)) rfl rfl hd hs hf ho _ q) h
theorem own_lswMiss (X : Stand p l e R s m args below meth c T locs cells slots) (hx : p.tables.exec = Jvm.exec) {pc pc' len : Nat} {Ls : Array Slot} {rest : List Value} {k : Int32} {df : Int} {prs : Array (Int × Int)} (hd : decode c.code pc = .ok (.lookupswitch df prs, len)) (hs : (prs.toList.zip (prs.toList.drop 1)).all (fun (a, next) => a.1 < next.1) = true) (hf : ∀ z ∈ prs.toList, z.1 ≠ k.toInt) (ho : 0 ≤ (pc : Int) + df) (hp : ((pc : Int) + df).toNat = pc') (h : own_Ends p e below Φ (T.setTop (mkF m pc' Ls rest))) : own_Ends p e below Φ (T.setTop (mkF m pc Ls (.int k :: rest))) := by
  subst hp; exact own_via (fun _ q => X.lookupswitchMiss hx (g := mkF m pc Ls (.int k :: rest)) rfl rfl hd hs (find_miss hf) ho _ q) h
theorem own_neI {t : Int32} (k : Int32) (n : Int) (hk : k.toInt = n) (h : ¬ t = k) : n ≠ t.toInt := fun q => h (Int32.toInt_inj.mp (by rw [hk, q]))
theorem own_refE {P : Value → Prop} {v : Value} (hr : v.isRef = true) (h0 : P .null) (h1 : ∀ a, P (.ref a)) : P v := by cases v <;> first | exact h0 | exact h1 _ | cases hr
theorem own_iteR {c : Prop} [Decidable c] {a b : Value} (ha : a.isRef = true) (hb : b.isRef = true) : (if c then a else b).isRef = true := by by_cases q : c <;> simp [q, ha, hb]
theorem own_catR {v : Value} (h : v.isRef = true) : v.category = 1 := by cases v <;> first | rfl | cases h
end OwnKitA
section OwnStr
theorem own_c0 {P : Int32 → Prop} : ∀ c ∈ ([] : List Int32), P c := fun _ q => nomatch q
theorem own_c2 {P : Int32 → Prop} {c : Int32} {L : List Int32} (h : P c) (r : ∀ x ∈ L, P x) : ∀ x ∈ c :: L, P x := fun x q => (List.mem_cons.mp q).elim (fun e => e ▸ h) (r x)
theorem own_up {cs : List Int32} (h : ∀ c ∈ cs, ¬ c < 0 ∧ ¬ (255 : Int32) < c) : ∀ c ∈ cs, ¬ c < 0 ∧ ¬ (65535 : Int32) < c := fun c hc => ⟨(h c hc).1, fun q => (h c hc).2 (by rw [Int32.lt_iff_toInt_lt] at q ⊢; have e1 : (65535 : Int32).toInt = 65535 := rfl; have e2 : (255 : Int32).toInt = 255 := rfl; omega)⟩
theorem own_ch (x : Int32) : ¬ (x &&& (255 : Int32)).toUInt32.toUInt16.toUInt32.toInt32 < 0 ∧ ¬ (255 : Int32) < (x &&& (255 : Int32)).toUInt32.toUInt16.toUInt32.toInt32 := by
  rw [i2c_mask]
  have h := c_mask x 255 8 (by decide) (by decide)
  constructor
  · rw [Int32.lt_iff_toInt_lt, h]; have e : (0 : Int32).toInt = 0 := rfl; omega
  · rw [Int32.lt_iff_toInt_lt, h]; have e : (255 : Int32).toInt = 255 := rfl; omega
theorem own_narC {c : Int32} (h : ¬ c < 0 ∧ ¬ (255 : Int32) < c) : nar .char c = c := by
  obtain ⟨h1, h2⟩ := h
  rw [Int32.lt_iff_toInt_lt] at h1 h2
  have e0 : (0 : Int32).toInt = 0 := rfl
  have e1 : (255 : Int32).toInt = 255 := rfl
  have q := c_i2c c
  refine Int32.toInt_inj.mp ?_
  show c.toUInt32.toUInt16.toUInt32.toInt32.toInt = c.toInt
  omega
def own_Str (Z : State) (h : Heap) (a : Addr) (cs : List Int32) : Prop := ∃ (t : Addr) (kb : ClassId) (cd N : Int32) (vs : List Value), Exa Z h a "java/lang/String" ∧ Fld Z h a "java/lang/String" "value" "[B" (.ref t) ∧ Fld Z h a "java/lang/String" "coder" "B" (.int cd) ∧ Arv Z h t kb .byte N vs (.int 0) ∧ StrChars.Road.CodA cs cd N vs ∧ (∀ c ∈ cs, ¬ c < 0 ∧ ¬ (65535 : Int32) < c) ∧ cs.length ≤ 4000
theorem own_Str.ext {Z : State} {h h' : Heap} {a : Addr} {cs : List Int32} (F : own_Str Z h a cs) (E : Ext h h') : own_Str Z h' a cs := by
  obtain ⟨t, kb, cd, N, vs, h1, h2, h3, h4, h5⟩ := F
  exact ⟨t, kb, cd, N, vs, h1.ext E, h2.ext E, h3.ext E, h4.ext E, h5⟩
theorem own_Str.keep0 {Z : State} {h h' : Heap} {a : Addr} {cs : List Int32} (F : own_Str Z h a cs) (K : Keep h h' []) : own_Str Z h' a cs := by
  obtain ⟨t, kb, cd, N, vs, h1, h2, h3, h4, h5⟩ := F
  exact ⟨t, kb, cd, N, vs, h1.keep K, h2.keep K nin0, h3.keep K nin0, h4.keep K nin0, h5⟩
theorem own_safeNull {Z : State} {EL : List (String × Nat)} {vm : Vm} {h : Heap} {x : Addr} (hal : Z.vm.Alike vm) (E : Exa Z h x "java/lang/String") (F : Fld Z h x "java/lang/String" "value" "[B" .null) : Safe Z EL vm h x := fun B => by
  obtain ⟨p, -, u, a, -, q, -, G, rfl | rfl⟩ := B
  · have ha := (show h[q.sa]? = some q.sC from G.ha)
    obtain ⟨cell, cf, k, i, f, h1, h2, -, -, -, -, h7⟩ := F
    cases ha.symm.trans h1
    obtain ⟨cS, ⟨⟨-, -, -, ⟨c1, k1, i1, f1, -⟩, -, -, -, v1, -⟩, -⟩, -⟩ := G
    obtain ⟨k3, e3, -⟩ := State.fieldFound?_setVm (s := Z) hal h2
    have e4 := (show (Wst Z vm h).fieldFound? _ _ _ = _ from e3).symm.trans f1
    simp only [Option.some.injEq, Prod.mk.injEq] at e4
    rw [← e4.2.2.2, h7] at v1
    cases v1
  · obtain ⟨cell, k, e1, e2, e3, -, -⟩ := E
    cases (show h[q.sd]? = some q.SA from G.hd).symm.trans e1
    obtain ⟨cS, -, -, f, -⟩ := G
    have f' : vm.findClass "[B" = some q.SA.cls := f
    rw [hal.findClass] at f'
    obtain ⟨k1, q1, q2⟩ := Vm.findClass_spec f'
    obtain ⟨k2, q3, q4⟩ := Vm.findClass_spec e2
    cases q1.symm.trans q3
    exact absurd (q2.symm.trans q4) (by decide)
end OwnStr
theorem own_pd0 : parseMethodDescriptor "(Ljava/lang/Object;)V" = some ⟨[(.object "java/lang/Object")], none⟩ := by decide +kernel
theorem own_pd1 : parseMethodDescriptor "([CIILjava/lang/Void;)V" = some ⟨[(.array .char), .int, .int, (.object "java/lang/Void")], none⟩ := by decide +kernel
theorem own_pd2 : parseMethodDescriptor "([C)V" = some ⟨[(.array .char)], none⟩ := by decide +kernel
theorem own_pd3 : parseMethodDescriptor "(Ljava/lang/Object;)Z" = some ⟨[(.object "java/lang/Object")], some .boolean⟩ := by decide +kernel
theorem own_pd4 : parseMethodDescriptor "(Ljava/lang/Object;)Ljava/util/Optional;" = some ⟨[(.object "java/lang/Object")], some (.object "java/util/Optional")⟩ := by decide +kernel
theorem own_pd5 : parseMethodDescriptor "(Ljava/lang/String;)Lcom/example/kinfold/kinfold/ValueEncoding;" = some ⟨[(.object "java/lang/String")], some (.object "com/example/kinfold/kinfold/ValueEncoding")⟩ := by decide +kernel
theorem own_pd6 : parseMethodDescriptor "(IJ)Ljava/lang/String;" = some ⟨[.int, .long], some (.object "java/lang/String")⟩ := by decide +kernel
theorem own_pd7 : parseMethodDescriptor "(ILjava/lang/String;)Lcom/example/kinfold/kinfold/ValueEncoding;" = some ⟨[.int, (.object "java/lang/String")], some (.object "com/example/kinfold/kinfold/ValueEncoding")⟩ := by decide +kernel
theorem own_pd8 : parseMethodDescriptor "(ILjava/lang/String;)Ljava/util/Optional;" = some ⟨[.int, (.object "java/lang/String")], some (.object "java/util/Optional")⟩ := by decide +kernel
theorem own_pd9 : parseMethodDescriptor "(Ljava/lang/Object;)Ljava/lang/Object;" = some ⟨[(.object "java/lang/Object")], some (.object "java/lang/Object")⟩ := by decide +kernel
theorem own_d_jdk_42_method_66_code_0 : decode jdk_42_method_66_code 0 = .ok (.aload_n 0, 1) := by decide +kernel
theorem own_d_jdk_42_method_66_code_1 : decode jdk_42_method_66_code 1 = .ok (.aload_n 1, 1) := by decide +kernel
theorem own_d_jdk_42_method_66_code_2 : decode jdk_42_method_66_code 2 = .ok (.if_acmp .ne 5, 3) := by decide +kernel
theorem own_d_jdk_42_method_66_code_7 : decode jdk_42_method_66_code 7 = .ok (.aload_n 1, 1) := by decide +kernel
theorem own_d_jdk_42_method_66_code_8 : decode jdk_42_method_66_code 8 = .ok (.instanceof 10, 3) := by decide +kernel
theorem own_d_jdk_42_method_66_code_11 : decode jdk_42_method_66_code 11 = .ok (.ifCond .eq 43, 3) := by decide +kernel
theorem own_d_jdk_42_method_66_code_54 : decode jdk_42_method_66_code 54 = .ok (.iconst 0, 1) := by decide +kernel
theorem own_d_jdk_42_method_66_code_55 : decode jdk_42_method_66_code 55 = .ok (.ireturn, 1) := by decide +kernel
theorem own_pn_java_lang_String : plainName "java/lang/String" = true := by first | (simp [plainName, overriddenIn]; done) | decide +kernel
theorem own_d_jdk_32_method_2_code_0 : decode jdk_32_method_2_code 0 = .ok (.aload_n 0, 1) := by decide +kernel
theorem own_d_jdk_32_method_2_code_1 : decode jdk_32_method_2_code 1 = .ok (.invokespecial 7, 3) := by decide +kernel
theorem own_d_jdk_32_method_2_code_4 : decode jdk_32_method_2_code 4 = .ok (.aload_n 0, 1) := by decide +kernel
theorem own_d_jdk_32_method_2_code_5 : decode jdk_32_method_2_code 5 = .ok (.aload_n 1, 1) := by decide +kernel
theorem own_d_jdk_32_method_2_code_6 : decode jdk_32_method_2_code 6 = .ok (.putfield 13, 3) := by decide +kernel
theorem own_d_jdk_32_method_2_code_9 : decode jdk_32_method_2_code 9 = .ok (.return_, 1) := by decide +kernel
theorem own_pn_java_util_Optional : plainName "java/util/Optional" = true := by first | (simp [plainName, overriddenIn]; done) | decide +kernel
theorem own_d_jdk_32_method_4_code_0 : decode jdk_32_method_4_code 0 = .ok (.aload_n 0, 1) := by decide +kernel
theorem own_d_jdk_32_method_4_code_1 : decode jdk_32_method_4_code 1 = .ok (.ifnonnull 9, 3) := by decide +kernel
theorem own_d_jdk_32_method_4_code_4 : decode jdk_32_method_4_code 4 = .ok (.getstatic 1, 3) := by decide +kernel
theorem own_d_jdk_32_method_4_code_7 : decode jdk_32_method_4_code 7 = .ok (.goto 11, 3) := by decide +kernel
theorem own_d_jdk_32_method_4_code_18 : decode jdk_32_method_4_code 18 = .ok (.areturn, 1) := by decide +kernel
theorem own_d_jdk_32_method_4_code_10 : decode jdk_32_method_4_code 10 = .ok (.new 2, 3) := by decide +kernel
theorem own_d_jdk_32_method_4_code_13 : decode jdk_32_method_4_code 13 = .ok (.dup, 1) := by decide +kernel
theorem own_d_jdk_32_method_4_code_14 : decode jdk_32_method_4_code 14 = .ok (.aload_n 0, 1) := by decide +kernel
theorem own_d_jdk_32_method_4_code_15 : decode jdk_32_method_4_code 15 = .ok (.invokespecial 23, 3) := by decide +kernel
theorem own_d_jdk_32_method_15_code_0 : decode jdk_32_method_15_code 0 = .ok (.aload_n 0, 1) := by decide +kernel
theorem own_d_jdk_32_method_15_code_1 : decode jdk_32_method_15_code 1 = .ok (.getfield 13, 3) := by decide +kernel
theorem own_d_jdk_32_method_15_code_4 : decode jdk_32_method_15_code 4 = .ok (.ifnull 10, 3) := by decide +kernel
theorem own_d_jdk_32_method_15_code_14 : decode jdk_32_method_15_code 14 = .ok (.aload_n 1, 1) := by decide +kernel
theorem own_d_jdk_32_method_15_code_15 : decode jdk_32_method_15_code 15 = .ok (.areturn, 1) := by decide +kernel
theorem own_d_jdk_32_method_15_code_7 : decode jdk_32_method_15_code 7 = .ok (.aload_n 0, 1) := by decide +kernel
theorem own_d_jdk_32_method_15_code_8 : decode jdk_32_method_15_code 8 = .ok (.getfield 13, 3) := by decide +kernel
theorem own_d_jdk_32_method_15_code_11 : decode jdk_32_method_15_code 11 = .ok (.goto 4, 3) := by decide +kernel
theorem own_d_jdk_42_method_149_code_0 : decode jdk_42_method_149_code 0 = .ok (.aload_n 0, 1) := by decide +kernel
theorem own_d_jdk_42_method_149_code_1 : decode jdk_42_method_149_code 1 = .ok (.invokespecial 1, 3) := by decide +kernel
theorem own_d_jdk_42_method_149_code_4 : decode jdk_42_method_149_code 4 = .ok (.iload_n 3, 1) := by decide +kernel
theorem own_d_jdk_42_method_149_code_5 : decode jdk_42_method_149_code 5 = .ok (.ifCond .ne 22, 3) := by decide +kernel
theorem own_d_jdk_42_method_149_code_8 : decode jdk_42_method_149_code 8 = .ok (.aload_n 0, 1) := by decide +kernel
theorem own_d_jdk_42_method_149_code_9 : decode jdk_42_method_149_code 9 = .ok (.ldc 7, 2) := by decide +kernel
theorem own_d_jdk_42_method_149_code_11 : decode jdk_42_method_149_code 11 = .ok (.getfield 9, 3) := by decide +kernel
theorem own_d_jdk_42_method_149_code_14 : decode jdk_42_method_149_code 14 = .ok (.putfield 9, 3) := by decide +kernel
theorem own_d_jdk_42_method_149_code_17 : decode jdk_42_method_149_code 17 = .ok (.aload_n 0, 1) := by decide +kernel
theorem own_d_jdk_42_method_149_code_18 : decode jdk_42_method_149_code 18 = .ok (.ldc 7, 2) := by decide +kernel
theorem own_d_jdk_42_method_149_code_20 : decode jdk_42_method_149_code 20 = .ok (.getfield 15, 3) := by decide +kernel
theorem own_d_jdk_42_method_149_code_23 : decode jdk_42_method_149_code 23 = .ok (.putfield 15, 3) := by decide +kernel
theorem own_d_jdk_42_method_149_code_26 : decode jdk_42_method_149_code 26 = .ok (.return_, 1) := by decide +kernel
theorem own_d_jdk_42_method_3_code_0 : decode jdk_42_method_3_code 0 = .ok (.aload_n 0, 1) := by decide +kernel
theorem own_d_jdk_42_method_3_code_1 : decode jdk_42_method_3_code 1 = .ok (.aload_n 1, 1) := by decide +kernel
theorem own_d_jdk_42_method_3_code_2 : decode jdk_42_method_3_code 2 = .ok (.iconst 0, 1) := by decide +kernel
theorem own_d_jdk_42_method_3_code_3 : decode jdk_42_method_3_code 3 = .ok (.aload_n 1, 1) := by decide +kernel
theorem own_d_jdk_42_method_3_code_4 : decode jdk_42_method_3_code 4 = .ok (.arraylength, 1) := by decide +kernel
theorem own_d_jdk_42_method_3_code_5 : decode jdk_42_method_3_code 5 = .ok (.aconst_null, 1) := by decide +kernel
theorem own_d_jdk_42_method_3_code_6 : decode jdk_42_method_3_code 6 = .ok (.invokespecial 27, 3) := by decide +kernel
theorem own_d_jdk_42_method_3_code_9 : decode jdk_42_method_3_code 9 = .ok (.return_, 1) := by decide +kernel
theorem own_d_method_3_code_0 : decode method_3_code 0 = .ok (.iload_n 0, 1) := by decide +kernel
theorem own_d_method_3_code_1 : decode method_3_code 1 = .ok (.bipush 15, 2) := by decide +kernel
theorem own_d_method_3_code_3 : decode method_3_code 3 = .ok (.iand, 1) := by decide +kernel
theorem own_d_method_3_code_4 : decode method_3_code 4 = .ok (.istore_n 3, 1) := by decide +kernel
theorem own_d_method_3_code_5 : decode method_3_code 5 = .ok (.iload_n 3, 1) := by decide +kernel
theorem own_d_method_3_code_6 : decode method_3_code 6 = .ok (.ifCond .ne 5, 3) := by decide +kernel
theorem own_d_method_3_code_11 : decode method_3_code 11 = .ok (.iload_n 3, 1) := by decide +kernel
theorem own_d_method_3_code_12 : decode method_3_code 12 = .ok (.iconst 1, 1) := by decide +kernel
theorem own_d_method_3_code_13 : decode method_3_code 13 = .ok (.if_icmp .ne 6, 3) := by decide +kernel
theorem own_d_method_3_code_19 : decode method_3_code 19 = .ok (.iload_n 3, 1) := by decide +kernel
theorem own_d_method_3_code_20 : decode method_3_code 20 = .ok (.iconst 2, 1) := by decide +kernel
theorem own_d_method_3_code_21 : decode method_3_code 21 = .ok (.if_icmp .ne 6, 3) := by decide +kernel
theorem own_d_method_3_code_27 : decode method_3_code 27 = .ok (.iload_n 3, 1) := by decide +kernel
theorem own_d_method_3_code_28 : decode method_3_code 28 = .ok (.iconst 3, 1) := by decide +kernel
theorem own_d_method_3_code_29 : decode method_3_code 29 = .ok (.if_icmp .ne 6, 3) := by decide +kernel
theorem own_d_method_3_code_35 : decode method_3_code 35 = .ok (.iload_n 3, 1) := by decide +kernel
theorem own_d_method_3_code_36 : decode method_3_code 36 = .ok (.iconst 4, 1) := by decide +kernel
theorem own_d_method_3_code_37 : decode method_3_code 37 = .ok (.if_icmp .ne 6, 3) := by decide +kernel
theorem own_d_method_3_code_43 : decode method_3_code 43 = .ok (.iload_n 3, 1) := by decide +kernel
theorem own_d_method_3_code_44 : decode method_3_code 44 = .ok (.iconst 5, 1) := by decide +kernel
theorem own_d_method_3_code_45 : decode method_3_code 45 = .ok (.if_icmp .ne 6, 3) := by decide +kernel
theorem own_d_method_3_code_51 : decode method_3_code 51 = .ok (.iload_n 3, 1) := by decide +kernel
theorem own_d_method_3_code_52 : decode method_3_code 52 = .ok (.bipush 6, 2) := by decide +kernel
theorem own_d_method_3_code_54 : decode method_3_code 54 = .ok (.if_icmp .ne 6, 3) := by decide +kernel
theorem own_d_method_3_code_60 : decode method_3_code 60 = .ok (.iload_n 3, 1) := by decide +kernel
theorem own_d_method_3_code_61 : decode method_3_code 61 = .ok (.bipush 7, 2) := by decide +kernel
theorem own_d_method_3_code_63 : decode method_3_code 63 = .ok (.if_icmp .ne 6, 3) := by decide +kernel
theorem own_d_method_3_code_69 : decode method_3_code 69 = .ok (.iload_n 3, 1) := by decide +kernel
theorem own_d_method_3_code_70 : decode method_3_code 70 = .ok (.bipush 8, 2) := by decide +kernel
theorem own_d_method_3_code_72 : decode method_3_code 72 = .ok (.if_icmp .ne 6, 3) := by decide +kernel
theorem own_d_method_3_code_78 : decode method_3_code 78 = .ok (.iload_n 0, 1) := by decide +kernel
theorem own_d_method_3_code_79 : decode method_3_code 79 = .ok (.iconst 4, 1) := by decide +kernel
theorem own_d_method_3_code_80 : decode method_3_code 80 = .ok (.iushr, 1) := by decide +kernel
theorem own_d_method_3_code_81 : decode method_3_code 81 = .ok (.ldc 45, 2) := by decide +kernel
theorem own_d_method_3_code_83 : decode method_3_code 83 = .ok (.iand, 1) := by decide +kernel
theorem own_d_method_3_code_84 : decode method_3_code 84 = .ok (.iconst 5, 1) := by decide +kernel
theorem own_d_method_3_code_85 : decode method_3_code 85 = .ok (.irem, 1) := by decide +kernel
theorem own_d_method_3_code_86 : decode method_3_code 86 = .ok (.istore 4, 2) := by decide +kernel
theorem own_d_method_3_code_88 : decode method_3_code 88 = .ok (.lload_n 1, 1) := by decide +kernel
theorem own_d_method_3_code_89 : decode method_3_code 89 = .ok (.ldc2_w 46, 3) := by decide +kernel
theorem own_d_method_3_code_92 : decode method_3_code 92 = .ok (.land, 1) := by decide +kernel
theorem own_d_method_3_code_93 : decode method_3_code 93 = .ok (.l2i, 1) := by decide +kernel
theorem own_d_method_3_code_94 : decode method_3_code 94 = .ok (.i2c, 1) := by decide +kernel
theorem own_d_method_3_code_95 : decode method_3_code 95 = .ok (.istore 5, 2) := by decide +kernel
theorem own_d_method_3_code_97 : decode method_3_code 97 = .ok (.lload_n 1, 1) := by decide +kernel
theorem own_d_method_3_code_98 : decode method_3_code 98 = .ok (.bipush 8, 2) := by decide +kernel
theorem own_d_method_3_code_100 : decode method_3_code 100 = .ok (.lushr, 1) := by decide +kernel
theorem own_d_method_3_code_101 : decode method_3_code 101 = .ok (.ldc2_w 46, 3) := by decide +kernel
theorem own_d_method_3_code_104 : decode method_3_code 104 = .ok (.land, 1) := by decide +kernel
theorem own_d_method_3_code_105 : decode method_3_code 105 = .ok (.l2i, 1) := by decide +kernel
theorem own_d_method_3_code_106 : decode method_3_code 106 = .ok (.i2c, 1) := by decide +kernel
theorem own_d_method_3_code_107 : decode method_3_code 107 = .ok (.istore 6, 2) := by decide +kernel
theorem own_d_method_3_code_109 : decode method_3_code 109 = .ok (.lload_n 1, 1) := by decide +kernel
theorem own_d_method_3_code_110 : decode method_3_code 110 = .ok (.bipush 16, 2) := by decide +kernel
theorem own_d_method_3_code_112 : decode method_3_code 112 = .ok (.lushr, 1) := by decide +kernel
theorem own_d_method_3_code_113 : decode method_3_code 113 = .ok (.ldc2_w 46, 3) := by decide +kernel
theorem own_d_method_3_code_116 : decode method_3_code 116 = .ok (.land, 1) := by decide +kernel
theorem own_d_method_3_code_117 : decode method_3_code 117 = .ok (.l2i, 1) := by decide +kernel
theorem own_d_method_3_code_118 : decode method_3_code 118 = .ok (.i2c, 1) := by decide +kernel
theorem own_d_method_3_code_119 : decode method_3_code 119 = .ok (.istore 7, 2) := by decide +kernel
theorem own_d_method_3_code_121 : decode method_3_code 121 = .ok (.lload_n 1, 1) := by decide +kernel
theorem own_d_method_3_code_122 : decode method_3_code 122 = .ok (.bipush 24, 2) := by decide +kernel
theorem own_d_method_3_code_124 : decode method_3_code 124 = .ok (.lushr, 1) := by decide +kernel
theorem own_d_method_3_code_125 : decode method_3_code 125 = .ok (.ldc2_w 46, 3) := by decide +kernel
theorem own_d_method_3_code_128 : decode method_3_code 128 = .ok (.land, 1) := by decide +kernel
theorem own_d_method_3_code_129 : decode method_3_code 129 = .ok (.l2i, 1) := by decide +kernel
theorem own_d_method_3_code_130 : decode method_3_code 130 = .ok (.i2c, 1) := by decide +kernel
theorem own_d_method_3_code_131 : decode method_3_code 131 = .ok (.istore 8, 2) := by decide +kernel
theorem own_d_method_3_code_133 : decode method_3_code 133 = .ok (.iload 4, 2) := by decide +kernel
theorem own_d_method_3_code_135 : decode method_3_code 135 = .ok (.ifCond .ne 14, 3) := by decide +kernel
theorem own_d_method_3_code_149 : decode method_3_code 149 = .ok (.iload 4, 2) := by decide +kernel
theorem own_d_method_3_code_151 : decode method_3_code 151 = .ok (.iconst 1, 1) := by decide +kernel
theorem own_d_method_3_code_152 : decode method_3_code 152 = .ok (.if_icmp .ne 19, 3) := by decide +kernel
theorem own_d_method_3_code_171 : decode method_3_code 171 = .ok (.iload 4, 2) := by decide +kernel
theorem own_d_method_3_code_173 : decode method_3_code 173 = .ok (.iconst 2, 1) := by decide +kernel
theorem own_d_method_3_code_174 : decode method_3_code 174 = .ok (.if_icmp .ne 24, 3) := by decide +kernel
theorem own_d_method_3_code_198 : decode method_3_code 198 = .ok (.iload 4, 2) := by decide +kernel
theorem own_d_method_3_code_200 : decode method_3_code 200 = .ok (.iconst 3, 1) := by decide +kernel
theorem own_d_method_3_code_201 : decode method_3_code 201 = .ok (.if_icmp .ne 29, 3) := by decide +kernel
theorem own_d_method_3_code_230 : decode method_3_code 230 = .ok (.new 48, 3) := by decide +kernel
theorem own_d_method_3_code_233 : decode method_3_code 233 = .ok (.dup, 1) := by decide +kernel
theorem own_d_method_3_code_234 : decode method_3_code 234 = .ok (.iconst 4, 1) := by decide +kernel
theorem own_d_method_3_code_235 : decode method_3_code 235 = .ok (.newarray .char, 2) := by decide +kernel
theorem own_d_method_3_code_237 : decode method_3_code 237 = .ok (.dup, 1) := by decide +kernel
theorem own_d_method_3_code_238 : decode method_3_code 238 = .ok (.iconst 0, 1) := by decide +kernel
theorem own_d_method_3_code_239 : decode method_3_code 239 = .ok (.iload 5, 2) := by decide +kernel
theorem own_d_method_3_code_241 : decode method_3_code 241 = .ok (.castore, 1) := by decide +kernel
theorem own_d_method_3_code_242 : decode method_3_code 242 = .ok (.dup, 1) := by decide +kernel
theorem own_d_method_3_code_243 : decode method_3_code 243 = .ok (.iconst 1, 1) := by decide +kernel
theorem own_d_method_3_code_244 : decode method_3_code 244 = .ok (.iload 6, 2) := by decide +kernel
theorem own_d_method_3_code_246 : decode method_3_code 246 = .ok (.castore, 1) := by decide +kernel
theorem own_d_method_3_code_247 : decode method_3_code 247 = .ok (.dup, 1) := by decide +kernel
theorem own_d_method_3_code_248 : decode method_3_code 248 = .ok (.iconst 2, 1) := by decide +kernel
theorem own_d_method_3_code_249 : decode method_3_code 249 = .ok (.iload 7, 2) := by decide +kernel
theorem own_d_method_3_code_251 : decode method_3_code 251 = .ok (.castore, 1) := by decide +kernel
theorem own_d_method_3_code_252 : decode method_3_code 252 = .ok (.dup, 1) := by decide +kernel
theorem own_d_method_3_code_253 : decode method_3_code 253 = .ok (.iconst 3, 1) := by decide +kernel
theorem own_d_method_3_code_254 : decode method_3_code 254 = .ok (.iload 8, 2) := by decide +kernel
theorem own_d_method_3_code_256 : decode method_3_code 256 = .ok (.castore, 1) := by decide +kernel
theorem own_d_method_3_code_257 : decode method_3_code 257 = .ok (.invokespecial 50, 3) := by decide +kernel
theorem own_d_method_3_code_260 : decode method_3_code 260 = .ok (.areturn, 1) := by decide +kernel
theorem own_d_method_3_code_204 : decode method_3_code 204 = .ok (.new 48, 3) := by decide +kernel
theorem own_d_method_3_code_207 : decode method_3_code 207 = .ok (.dup, 1) := by decide +kernel
theorem own_d_method_3_code_208 : decode method_3_code 208 = .ok (.iconst 3, 1) := by decide +kernel
theorem own_d_method_3_code_209 : decode method_3_code 209 = .ok (.newarray .char, 2) := by decide +kernel
theorem own_d_method_3_code_211 : decode method_3_code 211 = .ok (.dup, 1) := by decide +kernel
theorem own_d_method_3_code_212 : decode method_3_code 212 = .ok (.iconst 0, 1) := by decide +kernel
theorem own_d_method_3_code_213 : decode method_3_code 213 = .ok (.iload 5, 2) := by decide +kernel
theorem own_d_method_3_code_215 : decode method_3_code 215 = .ok (.castore, 1) := by decide +kernel
theorem own_d_method_3_code_216 : decode method_3_code 216 = .ok (.dup, 1) := by decide +kernel
theorem own_d_method_3_code_217 : decode method_3_code 217 = .ok (.iconst 1, 1) := by decide +kernel
theorem own_d_method_3_code_218 : decode method_3_code 218 = .ok (.iload 6, 2) := by decide +kernel
theorem own_d_method_3_code_220 : decode method_3_code 220 = .ok (.castore, 1) := by decide +kernel
theorem own_d_method_3_code_221 : decode method_3_code 221 = .ok (.dup, 1) := by decide +kernel
theorem own_d_method_3_code_222 : decode method_3_code 222 = .ok (.iconst 2, 1) := by decide +kernel
theorem own_d_method_3_code_223 : decode method_3_code 223 = .ok (.iload 7, 2) := by decide +kernel
theorem own_d_method_3_code_225 : decode method_3_code 225 = .ok (.castore, 1) := by decide +kernel
theorem own_d_method_3_code_226 : decode method_3_code 226 = .ok (.invokespecial 50, 3) := by decide +kernel
theorem own_d_method_3_code_229 : decode method_3_code 229 = .ok (.areturn, 1) := by decide +kernel
theorem own_d_method_3_code_177 : decode method_3_code 177 = .ok (.new 48, 3) := by decide +kernel
theorem own_d_method_3_code_180 : decode method_3_code 180 = .ok (.dup, 1) := by decide +kernel
theorem own_d_method_3_code_181 : decode method_3_code 181 = .ok (.iconst 2, 1) := by decide +kernel
theorem own_d_method_3_code_182 : decode method_3_code 182 = .ok (.newarray .char, 2) := by decide +kernel
theorem own_d_method_3_code_184 : decode method_3_code 184 = .ok (.dup, 1) := by decide +kernel
theorem own_d_method_3_code_185 : decode method_3_code 185 = .ok (.iconst 0, 1) := by decide +kernel
theorem own_d_method_3_code_186 : decode method_3_code 186 = .ok (.iload 5, 2) := by decide +kernel
theorem own_d_method_3_code_188 : decode method_3_code 188 = .ok (.castore, 1) := by decide +kernel
theorem own_d_method_3_code_189 : decode method_3_code 189 = .ok (.dup, 1) := by decide +kernel
theorem own_d_method_3_code_190 : decode method_3_code 190 = .ok (.iconst 1, 1) := by decide +kernel
theorem own_d_method_3_code_191 : decode method_3_code 191 = .ok (.iload 6, 2) := by decide +kernel
theorem own_d_method_3_code_193 : decode method_3_code 193 = .ok (.castore, 1) := by decide +kernel
theorem own_d_method_3_code_194 : decode method_3_code 194 = .ok (.invokespecial 50, 3) := by decide +kernel
theorem own_d_method_3_code_197 : decode method_3_code 197 = .ok (.areturn, 1) := by decide +kernel
theorem own_d_method_3_code_155 : decode method_3_code 155 = .ok (.new 48, 3) := by decide +kernel
theorem own_d_method_3_code_158 : decode method_3_code 158 = .ok (.dup, 1) := by decide +kernel
theorem own_d_method_3_code_159 : decode method_3_code 159 = .ok (.iconst 1, 1) := by decide +kernel
theorem own_d_method_3_code_160 : decode method_3_code 160 = .ok (.newarray .char, 2) := by decide +kernel
theorem own_d_method_3_code_162 : decode method_3_code 162 = .ok (.dup, 1) := by decide +kernel
theorem own_d_method_3_code_163 : decode method_3_code 163 = .ok (.iconst 0, 1) := by decide +kernel
theorem own_d_method_3_code_164 : decode method_3_code 164 = .ok (.iload 5, 2) := by decide +kernel
theorem own_d_method_3_code_166 : decode method_3_code 166 = .ok (.castore, 1) := by decide +kernel
theorem own_d_method_3_code_167 : decode method_3_code 167 = .ok (.invokespecial 50, 3) := by decide +kernel
theorem own_d_method_3_code_170 : decode method_3_code 170 = .ok (.areturn, 1) := by decide +kernel
theorem own_d_method_3_code_138 : decode method_3_code 138 = .ok (.new 48, 3) := by decide +kernel
theorem own_d_method_3_code_141 : decode method_3_code 141 = .ok (.dup, 1) := by decide +kernel
theorem own_d_method_3_code_142 : decode method_3_code 142 = .ok (.iconst 0, 1) := by decide +kernel
theorem own_d_method_3_code_143 : decode method_3_code 143 = .ok (.newarray .char, 2) := by decide +kernel
theorem own_d_method_3_code_145 : decode method_3_code 145 = .ok (.invokespecial 50, 3) := by decide +kernel
theorem own_d_method_3_code_148 : decode method_3_code 148 = .ok (.areturn, 1) := by decide +kernel
theorem own_d_method_3_code_75 : decode method_3_code 75 = .ok (.ldc 43, 2) := by decide +kernel
theorem own_d_method_3_code_77 : decode method_3_code 77 = .ok (.areturn, 1) := by decide +kernel
theorem own_d_method_3_code_66 : decode method_3_code 66 = .ok (.ldc 41, 2) := by decide +kernel
theorem own_d_method_3_code_68 : decode method_3_code 68 = .ok (.areturn, 1) := by decide +kernel
theorem own_d_method_3_code_57 : decode method_3_code 57 = .ok (.ldc 39, 2) := by decide +kernel
theorem own_d_method_3_code_59 : decode method_3_code 59 = .ok (.areturn, 1) := by decide +kernel
theorem own_d_method_3_code_48 : decode method_3_code 48 = .ok (.ldc 37, 2) := by decide +kernel
theorem own_d_method_3_code_50 : decode method_3_code 50 = .ok (.areturn, 1) := by decide +kernel
theorem own_d_method_3_code_40 : decode method_3_code 40 = .ok (.ldc 35, 2) := by decide +kernel
theorem own_d_method_3_code_42 : decode method_3_code 42 = .ok (.areturn, 1) := by decide +kernel
theorem own_d_method_3_code_32 : decode method_3_code 32 = .ok (.ldc 33, 2) := by decide +kernel
theorem own_d_method_3_code_34 : decode method_3_code 34 = .ok (.areturn, 1) := by decide +kernel
theorem own_d_method_3_code_24 : decode method_3_code 24 = .ok (.ldc 31, 2) := by decide +kernel
theorem own_d_method_3_code_26 : decode method_3_code 26 = .ok (.areturn, 1) := by decide +kernel
theorem own_d_method_3_code_16 : decode method_3_code 16 = .ok (.ldc 29, 2) := by decide +kernel
theorem own_d_method_3_code_18 : decode method_3_code 18 = .ok (.areturn, 1) := by decide +kernel
theorem own_d_method_3_code_9 : decode method_3_code 9 = .ok (.aconst_null, 1) := by decide +kernel
theorem own_d_method_3_code_10 : decode method_3_code 10 = .ok (.areturn, 1) := by decide +kernel
theorem own_pn_com_example_kinfold_kinfold_ValueEncodingForTypePinLaw : plainName "com/example/kinfold/kinfold/ValueEncodingForTypePinLaw" = true := by first | (simp [plainName, overriddenIn]; done) | decide +kernel
theorem own_d_method_4_code_0 : decode method_4_code 0 = .ok (.ldc 29, 2) := by decide +kernel
theorem own_d_method_4_code_2 : decode method_4_code 2 = .ok (.aload_n 1, 1) := by decide +kernel
theorem own_d_method_4_code_3 : decode method_4_code 3 = .ok (.invokevirtual 53, 3) := by decide +kernel
theorem own_d_method_4_code_6 : decode method_4_code 6 = .ok (.istore_n 2, 1) := by decide +kernel
theorem own_d_method_4_code_7 : decode method_4_code 7 = .ok (.ldc 31, 2) := by decide +kernel
theorem own_d_method_4_code_9 : decode method_4_code 9 = .ok (.aload_n 1, 1) := by decide +kernel
theorem own_d_method_4_code_10 : decode method_4_code 10 = .ok (.invokevirtual 53, 3) := by decide +kernel
theorem own_d_method_4_code_13 : decode method_4_code 13 = .ok (.istore_n 3, 1) := by decide +kernel
theorem own_d_method_4_code_14 : decode method_4_code 14 = .ok (.ldc 33, 2) := by decide +kernel
theorem own_d_method_4_code_16 : decode method_4_code 16 = .ok (.aload_n 1, 1) := by decide +kernel
theorem own_d_method_4_code_17 : decode method_4_code 17 = .ok (.invokevirtual 53, 3) := by decide +kernel
theorem own_d_method_4_code_20 : decode method_4_code 20 = .ok (.istore 4, 2) := by decide +kernel
theorem own_d_method_4_code_22 : decode method_4_code 22 = .ok (.ldc 35, 2) := by decide +kernel
theorem own_d_method_4_code_24 : decode method_4_code 24 = .ok (.aload_n 1, 1) := by decide +kernel
theorem own_d_method_4_code_25 : decode method_4_code 25 = .ok (.invokevirtual 53, 3) := by decide +kernel
theorem own_d_method_4_code_28 : decode method_4_code 28 = .ok (.istore 5, 2) := by decide +kernel
theorem own_d_method_4_code_30 : decode method_4_code 30 = .ok (.ldc 37, 2) := by decide +kernel
theorem own_d_method_4_code_32 : decode method_4_code 32 = .ok (.aload_n 1, 1) := by decide +kernel
theorem own_d_method_4_code_33 : decode method_4_code 33 = .ok (.invokevirtual 53, 3) := by decide +kernel
theorem own_d_method_4_code_36 : decode method_4_code 36 = .ok (.istore 6, 2) := by decide +kernel
theorem own_d_method_4_code_38 : decode method_4_code 38 = .ok (.ldc 39, 2) := by decide +kernel
theorem own_d_method_4_code_40 : decode method_4_code 40 = .ok (.aload_n 1, 1) := by decide +kernel
theorem own_d_method_4_code_41 : decode method_4_code 41 = .ok (.invokevirtual 53, 3) := by decide +kernel
theorem own_d_method_4_code_44 : decode method_4_code 44 = .ok (.ifCond .ne 12, 3) := by decide +kernel
theorem own_d_method_4_code_56 : decode method_4_code 56 = .ok (.iconst 1, 1) := by decide +kernel
theorem own_d_method_4_code_57 : decode method_4_code 57 = .ok (.goto 4, 3) := by decide +kernel
theorem own_d_method_4_code_61 : decode method_4_code 61 = .ok (.istore 7, 2) := by decide +kernel
theorem own_d_method_4_code_63 : decode method_4_code 63 = .ok (.ldc 43, 2) := by decide +kernel
theorem own_d_method_4_code_65 : decode method_4_code 65 = .ok (.aload_n 1, 1) := by decide +kernel
theorem own_d_method_4_code_66 : decode method_4_code 66 = .ok (.invokevirtual 53, 3) := by decide +kernel
theorem own_d_method_4_code_69 : decode method_4_code 69 = .ok (.istore 8, 2) := by decide +kernel
theorem own_d_method_4_code_71 : decode method_4_code 71 = .ok (.iload_n 0, 1) := by decide +kernel
theorem own_d_method_4_code_72 : decode method_4_code 72 = .ok (.iconst 5, 1) := by decide +kernel
theorem own_d_method_4_code_73 : decode method_4_code 73 = .ok (.if_icmp .ne 7, 3) := by decide +kernel
theorem own_d_method_4_code_80 : decode method_4_code 80 = .ok (.iload_n 0, 1) := by decide +kernel
theorem own_d_method_4_code_81 : decode method_4_code 81 = .ok (.iconst 4, 1) := by decide +kernel
theorem own_d_method_4_code_82 : decode method_4_code 82 = .ok (.if_icmp .ne 7, 3) := by decide +kernel
theorem own_d_method_4_code_89 : decode method_4_code 89 = .ok (.iload_n 0, 1) := by decide +kernel
theorem own_d_method_4_code_90 : decode method_4_code 90 = .ok (.bipush (-5), 2) := by decide +kernel
theorem own_d_method_4_code_92 : decode method_4_code 92 = .ok (.if_icmp .ne 15, 3) := by decide +kernel
theorem own_d_method_4_code_107 : decode method_4_code 107 = .ok (.iload_n 0, 1) := by decide +kernel
theorem own_d_method_4_code_108 : decode method_4_code 108 = .ok (.bipush 7, 2) := by decide +kernel
theorem own_d_method_4_code_110 : decode method_4_code 110 = .ok (.if_icmp .ne 7, 3) := by decide +kernel
theorem own_d_method_4_code_117 : decode method_4_code 117 = .ok (.iload_n 0, 1) := by decide +kernel
theorem own_d_method_4_code_118 : decode method_4_code 118 = .ok (.bipush 8, 2) := by decide +kernel
theorem own_d_method_4_code_120 : decode method_4_code 120 = .ok (.if_icmp .ne 15, 3) := by decide +kernel
theorem own_d_method_4_code_135 : decode method_4_code 135 = .ok (.iload_n 0, 1) := by decide +kernel
theorem own_d_method_4_code_136 : decode method_4_code 136 = .ok (.iconst 2, 1) := by decide +kernel
theorem own_d_method_4_code_137 : decode method_4_code 137 = .ok (.if_icmp .eq 8, 3) := by decide +kernel
theorem own_d_method_4_code_145 : decode method_4_code 145 = .ok (.getstatic 73, 3) := by decide +kernel
theorem own_d_method_4_code_148 : decode method_4_code 148 = .ok (.areturn, 1) := by decide +kernel
theorem own_d_method_4_code_140 : decode method_4_code 140 = .ok (.iload_n 0, 1) := by decide +kernel
theorem own_d_method_4_code_141 : decode method_4_code 141 = .ok (.iconst 3, 1) := by decide +kernel
theorem own_d_method_4_code_142 : decode method_4_code 142 = .ok (.if_icmp .ne 7, 3) := by decide +kernel
theorem own_d_method_4_code_149 : decode method_4_code 149 = .ok (.iload_n 0, 1) := by decide +kernel
theorem own_d_method_4_code_150 : decode method_4_code 150 = .ok (.bipush 16, 2) := by decide +kernel
theorem own_d_method_4_code_152 : decode method_4_code 152 = .ok (.if_icmp .ne 7, 3) := by decide +kernel
theorem own_d_method_4_code_159 : decode method_4_code 159 = .ok (.iload_n 0, 1) := by decide +kernel
theorem own_d_method_4_code_160 : decode method_4_code 160 = .ok (.bipush (-7), 2) := by decide +kernel
theorem own_d_method_4_code_162 : decode method_4_code 162 = .ok (.if_icmp .ne 16, 3) := by decide +kernel
theorem own_d_method_4_code_178 : decode method_4_code 178 = .ok (.iload_n 0, 1) := by decide +kernel
theorem own_d_method_4_code_179 : decode method_4_code 179 = .ok (.iconst 1, 1) := by decide +kernel
theorem own_d_method_4_code_180 : decode method_4_code 180 = .ok (.if_icmp .eq 32, 3) := by decide +kernel
theorem own_d_method_4_code_212 : decode method_4_code 212 = .ok (.getstatic 79, 3) := by decide +kernel
theorem own_d_method_4_code_215 : decode method_4_code 215 = .ok (.areturn, 1) := by decide +kernel
theorem own_d_method_4_code_183 : decode method_4_code 183 = .ok (.iload_n 0, 1) := by decide +kernel
theorem own_d_method_4_code_184 : decode method_4_code 184 = .ok (.bipush 12, 2) := by decide +kernel
theorem own_d_method_4_code_186 : decode method_4_code 186 = .ok (.if_icmp .eq 26, 3) := by decide +kernel
theorem own_d_method_4_code_189 : decode method_4_code 189 = .ok (.iload_n 0, 1) := by decide +kernel
theorem own_d_method_4_code_190 : decode method_4_code 190 = .ok (.iconst (-1), 1) := by decide +kernel
theorem own_d_method_4_code_191 : decode method_4_code 191 = .ok (.if_icmp .eq 21, 3) := by decide +kernel
theorem own_d_method_4_code_194 : decode method_4_code 194 = .ok (.iload_n 0, 1) := by decide +kernel
theorem own_d_method_4_code_195 : decode method_4_code 195 = .ok (.bipush (-15), 2) := by decide +kernel
theorem own_d_method_4_code_197 : decode method_4_code 197 = .ok (.if_icmp .eq 15, 3) := by decide +kernel
theorem own_d_method_4_code_200 : decode method_4_code 200 = .ok (.iload_n 0, 1) := by decide +kernel
theorem own_d_method_4_code_201 : decode method_4_code 201 = .ok (.bipush (-9), 2) := by decide +kernel
theorem own_d_method_4_code_203 : decode method_4_code 203 = .ok (.if_icmp .eq 9, 3) := by decide +kernel
theorem own_d_method_4_code_206 : decode method_4_code 206 = .ok (.iload_n 0, 1) := by decide +kernel
theorem own_d_method_4_code_207 : decode method_4_code 207 = .ok (.bipush (-16), 2) := by decide +kernel
theorem own_d_method_4_code_209 : decode method_4_code 209 = .ok (.if_icmp .ne 7, 3) := by decide +kernel
theorem own_d_method_4_code_216 : decode method_4_code 216 = .ok (.iload_n 0, 1) := by decide +kernel
theorem own_d_method_4_code_217 : decode method_4_code 217 = .ok (.bipush 91, 2) := by decide +kernel
theorem own_d_method_4_code_219 : decode method_4_code 219 = .ok (.if_icmp .ne 7, 3) := by decide +kernel
theorem own_d_method_4_code_226 : decode method_4_code 226 = .ok (.iload_n 0, 1) := by decide +kernel
theorem own_d_method_4_code_227 : decode method_4_code 227 = .ok (.bipush 92, 2) := by decide +kernel
theorem own_d_method_4_code_229 : decode method_4_code 229 = .ok (.if_icmp .ne 16, 3) := by decide +kernel
theorem own_d_method_4_code_245 : decode method_4_code 245 = .ok (.iload_n 0, 1) := by decide +kernel
theorem own_d_method_4_code_246 : decode method_4_code 246 = .ok (.bipush 93, 2) := by decide +kernel
theorem own_d_method_4_code_248 : decode method_4_code 248 = .ok (.if_icmp .ne 18, 3) := by decide +kernel
theorem own_d_method_4_code_266 : decode method_4_code 266 = .ok (.iload_n 0, 1) := by decide +kernel
theorem own_d_method_4_code_267 : decode method_4_code 267 = .ok (.sipush 2014, 3) := by decide +kernel
theorem own_d_method_4_code_270 : decode method_4_code 270 = .ok (.if_icmp .ne 7, 3) := by decide +kernel
theorem own_d_method_4_code_277 : decode method_4_code 277 = .ok (.iload_n 0, 1) := by decide +kernel
theorem own_d_method_4_code_278 : decode method_4_code 278 = .ok (.bipush (-2), 2) := by decide +kernel
theorem own_d_method_4_code_280 : decode method_4_code 280 = .ok (.if_icmp .eq 22, 3) := by decide +kernel
theorem own_d_method_4_code_302 : decode method_4_code 302 = .ok (.getstatic 94, 3) := by decide +kernel
theorem own_d_method_4_code_305 : decode method_4_code 305 = .ok (.areturn, 1) := by decide +kernel
theorem own_d_method_4_code_283 : decode method_4_code 283 = .ok (.iload_n 0, 1) := by decide +kernel
theorem own_d_method_4_code_284 : decode method_4_code 284 = .ok (.bipush (-3), 2) := by decide +kernel
theorem own_d_method_4_code_286 : decode method_4_code 286 = .ok (.if_icmp .eq 16, 3) := by decide +kernel
theorem own_d_method_4_code_289 : decode method_4_code 289 = .ok (.iload_n 0, 1) := by decide +kernel
theorem own_d_method_4_code_290 : decode method_4_code 290 = .ok (.bipush (-4), 2) := by decide +kernel
theorem own_d_method_4_code_292 : decode method_4_code 292 = .ok (.if_icmp .eq 10, 3) := by decide +kernel
theorem own_d_method_4_code_295 : decode method_4_code 295 = .ok (.iload_n 0, 1) := by decide +kernel
theorem own_d_method_4_code_296 : decode method_4_code 296 = .ok (.sipush 2004, 3) := by decide +kernel
theorem own_d_method_4_code_299 : decode method_4_code 299 = .ok (.if_icmp .ne 7, 3) := by decide +kernel
theorem own_d_method_4_code_306 : decode method_4_code 306 = .ok (.iload_n 0, 1) := by decide +kernel
theorem own_d_method_4_code_307 : decode method_4_code 307 = .ok (.sipush 1111, 3) := by decide +kernel
theorem own_d_method_4_code_310 : decode method_4_code 310 = .ok (.if_icmp .ne 23, 3) := by decide +kernel
theorem own_d_method_4_code_333 : decode method_4_code 333 = .ok (.aconst_null, 1) := by decide +kernel
theorem own_d_method_4_code_334 : decode method_4_code 334 = .ok (.areturn, 1) := by decide +kernel
theorem own_d_method_4_code_313 : decode method_4_code 313 = .ok (.iload 7, 2) := by decide +kernel
theorem own_d_method_4_code_315 : decode method_4_code 315 = .ok (.ifCond .eq 7, 3) := by decide +kernel
theorem own_d_method_4_code_318 : decode method_4_code 318 = .ok (.getstatic 79, 3) := by decide +kernel
theorem own_d_method_4_code_321 : decode method_4_code 321 = .ok (.areturn, 1) := by decide +kernel
theorem own_d_method_4_code_273 : decode method_4_code 273 = .ok (.getstatic 88, 3) := by decide +kernel
theorem own_d_method_4_code_276 : decode method_4_code 276 = .ok (.areturn, 1) := by decide +kernel
theorem own_d_method_4_code_251 : decode method_4_code 251 = .ok (.iload 6, 2) := by decide +kernel
theorem own_d_method_4_code_253 : decode method_4_code 253 = .ok (.ifCond .eq 9, 3) := by decide +kernel
theorem own_d_method_4_code_262 : decode method_4_code 262 = .ok (.getstatic 91, 3) := by decide +kernel
theorem own_d_method_4_code_265 : decode method_4_code 265 = .ok (.areturn, 1) := by decide +kernel
theorem own_d_method_4_code_256 : decode method_4_code 256 = .ok (.getstatic 88, 3) := by decide +kernel
theorem own_d_method_4_code_259 : decode method_4_code 259 = .ok (.goto 6, 3) := by decide +kernel
theorem own_d_method_4_code_232 : decode method_4_code 232 = .ok (.iload 5, 2) := by decide +kernel
theorem own_d_method_4_code_234 : decode method_4_code 234 = .ok (.ifCond .eq 7, 3) := by decide +kernel
theorem own_d_method_4_code_241 : decode method_4_code 241 = .ok (.getstatic 85, 3) := by decide +kernel
theorem own_d_method_4_code_244 : decode method_4_code 244 = .ok (.areturn, 1) := by decide +kernel
theorem own_d_method_4_code_237 : decode method_4_code 237 = .ok (.aconst_null, 1) := by decide +kernel
theorem own_d_method_4_code_238 : decode method_4_code 238 = .ok (.goto 6, 3) := by decide +kernel
theorem own_d_method_4_code_222 : decode method_4_code 222 = .ok (.getstatic 82, 3) := by decide +kernel
theorem own_d_method_4_code_225 : decode method_4_code 225 = .ok (.areturn, 1) := by decide +kernel
theorem own_d_method_4_code_165 : decode method_4_code 165 = .ok (.iload 4, 2) := by decide +kernel
theorem own_d_method_4_code_167 : decode method_4_code 167 = .ok (.ifCond .eq 9, 3) := by decide +kernel
theorem own_d_method_4_code_176 : decode method_4_code 176 = .ok (.aconst_null, 1) := by decide +kernel
theorem own_d_method_4_code_177 : decode method_4_code 177 = .ok (.areturn, 1) := by decide +kernel
theorem own_d_method_4_code_170 : decode method_4_code 170 = .ok (.getstatic 76, 3) := by decide +kernel
theorem own_d_method_4_code_173 : decode method_4_code 173 = .ok (.goto 4, 3) := by decide +kernel
theorem own_d_method_4_code_155 : decode method_4_code 155 = .ok (.getstatic 76, 3) := by decide +kernel
theorem own_d_method_4_code_158 : decode method_4_code 158 = .ok (.areturn, 1) := by decide +kernel
theorem own_d_method_4_code_123 : decode method_4_code 123 = .ok (.iload_n 3, 1) := by decide +kernel
theorem own_d_method_4_code_124 : decode method_4_code 124 = .ok (.ifCond .eq 7, 3) := by decide +kernel
theorem own_d_method_4_code_131 : decode method_4_code 131 = .ok (.getstatic 70, 3) := by decide +kernel
theorem own_d_method_4_code_134 : decode method_4_code 134 = .ok (.areturn, 1) := by decide +kernel
theorem own_d_method_4_code_127 : decode method_4_code 127 = .ok (.aconst_null, 1) := by decide +kernel
theorem own_d_method_4_code_128 : decode method_4_code 128 = .ok (.goto 6, 3) := by decide +kernel
theorem own_d_method_4_code_113 : decode method_4_code 113 = .ok (.getstatic 67, 3) := by decide +kernel
theorem own_d_method_4_code_116 : decode method_4_code 116 = .ok (.areturn, 1) := by decide +kernel
theorem own_d_method_4_code_95 : decode method_4_code 95 = .ok (.iload_n 2, 1) := by decide +kernel
theorem own_d_method_4_code_96 : decode method_4_code 96 = .ok (.ifCond .eq 7, 3) := by decide +kernel
theorem own_d_method_4_code_103 : decode method_4_code 103 = .ok (.getstatic 64, 3) := by decide +kernel
theorem own_d_method_4_code_106 : decode method_4_code 106 = .ok (.areturn, 1) := by decide +kernel
theorem own_d_method_4_code_99 : decode method_4_code 99 = .ok (.aconst_null, 1) := by decide +kernel
theorem own_d_method_4_code_100 : decode method_4_code 100 = .ok (.goto 6, 3) := by decide +kernel
theorem own_d_method_4_code_85 : decode method_4_code 85 = .ok (.getstatic 61, 3) := by decide +kernel
theorem own_d_method_4_code_88 : decode method_4_code 88 = .ok (.areturn, 1) := by decide +kernel
theorem own_d_method_4_code_76 : decode method_4_code 76 = .ok (.getstatic 57, 3) := by decide +kernel
theorem own_d_method_4_code_79 : decode method_4_code 79 = .ok (.areturn, 1) := by decide +kernel
theorem own_d_method_4_code_47 : decode method_4_code 47 = .ok (.ldc 41, 2) := by decide +kernel
theorem own_d_method_4_code_49 : decode method_4_code 49 = .ok (.aload_n 1, 1) := by decide +kernel
theorem own_d_method_4_code_50 : decode method_4_code 50 = .ok (.invokevirtual 53, 3) := by decide +kernel
theorem own_d_method_4_code_53 : decode method_4_code 53 = .ok (.ifCond .eq 7, 3) := by decide +kernel
theorem own_d_method_4_code_60 : decode method_4_code 60 = .ok (.iconst 0, 1) := by decide +kernel
theorem own_d_method_4_code_322 : decode method_4_code 322 = .ok (.iload 8, 2) := by decide +kernel
theorem own_d_method_4_code_324 : decode method_4_code 324 = .ok (.ifCond .eq 7, 3) := by decide +kernel
theorem own_d_method_4_code_331 : decode method_4_code 331 = .ok (.aconst_null, 1) := by decide +kernel
theorem own_d_method_4_code_332 : decode method_4_code 332 = .ok (.areturn, 1) := by decide +kernel
theorem own_d_method_4_code_327 : decode method_4_code 327 = .ok (.getstatic 97, 3) := by decide +kernel
theorem own_d_method_4_code_330 : decode method_4_code 330 = .ok (.areturn, 1) := by decide +kernel
theorem own_d_prog_29_method_7_code_0 : decode prog_29_method_7_code 0 = .ok (.ldc 95, 2) := by decide +kernel
theorem own_d_prog_29_method_7_code_2 : decode prog_29_method_7_code 2 = .ok (.aload_n 0, 1) := by decide +kernel
theorem own_d_prog_29_method_7_code_3 : decode prog_29_method_7_code 3 = .ok (.invokevirtual 71, 3) := by decide +kernel
theorem own_d_prog_29_method_7_code_6 : decode prog_29_method_7_code 6 = .ok (.ifCond .ne 12, 3) := by decide +kernel
theorem own_d_prog_29_method_7_code_18 : decode prog_29_method_7_code 18 = .ok (.getstatic 25, 3) := by decide +kernel
theorem own_d_prog_29_method_7_code_21 : decode prog_29_method_7_code 21 = .ok (.astore_n 1, 1) := by decide +kernel
theorem own_d_prog_29_method_7_code_22 : decode prog_29_method_7_code 22 = .ok (.goto 21, 3) := by decide +kernel
theorem own_d_prog_29_method_7_code_43 : decode prog_29_method_7_code 43 = .ok (.aload_n 1, 1) := by decide +kernel
theorem own_d_prog_29_method_7_code_44 : decode prog_29_method_7_code 44 = .ok (.areturn, 1) := by decide +kernel
theorem own_d_prog_29_method_7_code_9 : decode prog_29_method_7_code 9 = .ok (.ldc 97, 2) := by decide +kernel
theorem own_d_prog_29_method_7_code_11 : decode prog_29_method_7_code 11 = .ok (.aload_n 0, 1) := by decide +kernel
theorem own_d_prog_29_method_7_code_12 : decode prog_29_method_7_code 12 = .ok (.invokevirtual 71, 3) := by decide +kernel
theorem own_d_prog_29_method_7_code_15 : decode prog_29_method_7_code 15 = .ok (.ifCond .eq 10, 3) := by decide +kernel
theorem own_d_prog_29_method_7_code_25 : decode prog_29_method_7_code 25 = .ok (.ldc 99, 2) := by decide +kernel
theorem own_d_prog_29_method_7_code_27 : decode prog_29_method_7_code 27 = .ok (.aload_n 0, 1) := by decide +kernel
theorem own_d_prog_29_method_7_code_28 : decode prog_29_method_7_code 28 = .ok (.invokevirtual 71, 3) := by decide +kernel
theorem own_d_prog_29_method_7_code_31 : decode prog_29_method_7_code 31 = .ok (.ifCond .eq 10, 3) := by decide +kernel
theorem own_d_prog_29_method_7_code_41 : decode prog_29_method_7_code 41 = .ok (.aconst_null, 1) := by decide +kernel
theorem own_d_prog_29_method_7_code_42 : decode prog_29_method_7_code 42 = .ok (.astore_n 1, 1) := by decide +kernel
theorem own_d_prog_29_method_7_code_34 : decode prog_29_method_7_code 34 = .ok (.getstatic 43, 3) := by decide +kernel
theorem own_d_prog_29_method_7_code_37 : decode prog_29_method_7_code 37 = .ok (.astore_n 1, 1) := by decide +kernel
theorem own_d_prog_29_method_7_code_38 : decode prog_29_method_7_code 38 = .ok (.goto 5, 3) := by decide +kernel
theorem own_pn_com_example_kinfold_kinfold_ValueEncoding : plainName "com/example/kinfold/kinfold/ValueEncoding" = true := by first | (simp [plainName, overriddenIn]; done) | decide +kernel
theorem own_d_prog_29_method_6_code_0 : decode prog_29_method_6_code 0 = .ok (.iload_n 0, 1) := by decide +kernel
theorem own_d_prog_29_method_6_code_1 : decode prog_29_method_6_code 1 = .ok (.lookupswitch 361 #[(-16, 290), (-15, 290), (-9, 290), (-7, 271), (-5, 215), (-4, 348), (-3, 348), (-2, 348), (-1, 290), (1, 290), (2, 259), (3, 259), (4, 209), (5, 203), (7, 234), (8, 240), (12, 290), (16, 265), (91, 296), (92, 302), (93, 321), (1111, 354), (2004, 348), (2014, 342)], 203) := by decide +kernel
theorem own_d_prog_29_method_6_code_291 : decode prog_29_method_6_code 291 = .ok (.getstatic 25, 3) := by decide +kernel
theorem own_d_prog_29_method_6_code_294 : decode prog_29_method_6_code 294 = .ok (.goto 69, 3) := by decide +kernel
theorem own_d_prog_29_method_6_code_363 : decode prog_29_method_6_code 363 = .ok (.astore_n 2, 1) := by decide +kernel
theorem own_d_prog_29_method_6_code_364 : decode prog_29_method_6_code 364 = .ok (.aload_n 2, 1) := by decide +kernel
theorem own_d_prog_29_method_6_code_365 : decode prog_29_method_6_code 365 = .ok (.invokestatic 89, 3) := by decide +kernel
theorem own_d_prog_29_method_6_code_368 : decode prog_29_method_6_code 368 = .ok (.areturn, 1) := by decide +kernel
theorem own_d_prog_29_method_6_code_272 : decode prog_29_method_6_code 272 = .ok (.ldc 79, 2) := by decide +kernel
theorem own_d_prog_29_method_6_code_274 : decode prog_29_method_6_code 274 = .ok (.aload_n 1, 1) := by decide +kernel
theorem own_d_prog_29_method_6_code_275 : decode prog_29_method_6_code 275 = .ok (.invokevirtual 71, 3) := by decide +kernel
theorem own_d_prog_29_method_6_code_278 : decode prog_29_method_6_code 278 = .ok (.ifCond .eq 9, 3) := by decide +kernel
theorem own_d_prog_29_method_6_code_287 : decode prog_29_method_6_code 287 = .ok (.aconst_null, 1) := by decide +kernel
theorem own_d_prog_29_method_6_code_288 : decode prog_29_method_6_code 288 = .ok (.goto 75, 3) := by decide +kernel
theorem own_d_prog_29_method_6_code_281 : decode prog_29_method_6_code 281 = .ok (.getstatic 22, 3) := by decide +kernel
theorem own_d_prog_29_method_6_code_284 : decode prog_29_method_6_code 284 = .ok (.goto 79, 3) := by decide +kernel
theorem own_d_prog_29_method_6_code_216 : decode prog_29_method_6_code 216 = .ok (.ldc 69, 2) := by decide +kernel
theorem own_d_prog_29_method_6_code_218 : decode prog_29_method_6_code 218 = .ok (.aload_n 1, 1) := by decide +kernel
theorem own_d_prog_29_method_6_code_219 : decode prog_29_method_6_code 219 = .ok (.invokevirtual 71, 3) := by decide +kernel
theorem own_d_prog_29_method_6_code_222 : decode prog_29_method_6_code 222 = .ok (.ifCond .eq 7, 3) := by decide +kernel
theorem own_d_prog_29_method_6_code_229 : decode prog_29_method_6_code 229 = .ok (.getstatic 10, 3) := by decide +kernel
theorem own_d_prog_29_method_6_code_232 : decode prog_29_method_6_code 232 = .ok (.goto 131, 3) := by decide +kernel
theorem own_d_prog_29_method_6_code_225 : decode prog_29_method_6_code 225 = .ok (.aconst_null, 1) := by decide +kernel
theorem own_d_prog_29_method_6_code_226 : decode prog_29_method_6_code 226 = .ok (.goto 137, 3) := by decide +kernel
theorem own_d_prog_29_method_6_code_349 : decode prog_29_method_6_code 349 = .ok (.getstatic 40, 3) := by decide +kernel
theorem own_d_prog_29_method_6_code_352 : decode prog_29_method_6_code 352 = .ok (.goto 11, 3) := by decide +kernel
theorem own_d_prog_29_method_6_code_260 : decode prog_29_method_6_code 260 = .ok (.getstatic 19, 3) := by decide +kernel
theorem own_d_prog_29_method_6_code_263 : decode prog_29_method_6_code 263 = .ok (.goto 100, 3) := by decide +kernel
theorem own_d_prog_29_method_6_code_210 : decode prog_29_method_6_code 210 = .ok (.getstatic 7, 3) := by decide +kernel
theorem own_d_prog_29_method_6_code_213 : decode prog_29_method_6_code 213 = .ok (.goto 150, 3) := by decide +kernel
theorem own_d_prog_29_method_6_code_204 : decode prog_29_method_6_code 204 = .ok (.getstatic 3, 3) := by decide +kernel
theorem own_d_prog_29_method_6_code_207 : decode prog_29_method_6_code 207 = .ok (.goto 156, 3) := by decide +kernel
theorem own_d_prog_29_method_6_code_235 : decode prog_29_method_6_code 235 = .ok (.getstatic 13, 3) := by decide +kernel
theorem own_d_prog_29_method_6_code_238 : decode prog_29_method_6_code 238 = .ok (.goto 125, 3) := by decide +kernel
theorem own_d_prog_29_method_6_code_241 : decode prog_29_method_6_code 241 = .ok (.ldc 77, 2) := by decide +kernel
theorem own_d_prog_29_method_6_code_243 : decode prog_29_method_6_code 243 = .ok (.aload_n 1, 1) := by decide +kernel
theorem own_d_prog_29_method_6_code_244 : decode prog_29_method_6_code 244 = .ok (.invokevirtual 71, 3) := by decide +kernel
theorem own_d_prog_29_method_6_code_247 : decode prog_29_method_6_code 247 = .ok (.ifCond .eq 7, 3) := by decide +kernel
theorem own_d_prog_29_method_6_code_254 : decode prog_29_method_6_code 254 = .ok (.getstatic 16, 3) := by decide +kernel
theorem own_d_prog_29_method_6_code_257 : decode prog_29_method_6_code 257 = .ok (.goto 106, 3) := by decide +kernel
theorem own_d_prog_29_method_6_code_250 : decode prog_29_method_6_code 250 = .ok (.aconst_null, 1) := by decide +kernel
theorem own_d_prog_29_method_6_code_251 : decode prog_29_method_6_code 251 = .ok (.goto 112, 3) := by decide +kernel
theorem own_d_prog_29_method_6_code_266 : decode prog_29_method_6_code 266 = .ok (.getstatic 22, 3) := by decide +kernel
theorem own_d_prog_29_method_6_code_269 : decode prog_29_method_6_code 269 = .ok (.goto 94, 3) := by decide +kernel
theorem own_d_prog_29_method_6_code_297 : decode prog_29_method_6_code 297 = .ok (.getstatic 28, 3) := by decide +kernel
theorem own_d_prog_29_method_6_code_300 : decode prog_29_method_6_code 300 = .ok (.goto 63, 3) := by decide +kernel
theorem own_d_prog_29_method_6_code_303 : decode prog_29_method_6_code 303 = .ok (.ldc 81, 2) := by decide +kernel
theorem own_d_prog_29_method_6_code_305 : decode prog_29_method_6_code 305 = .ok (.aload_n 1, 1) := by decide +kernel
theorem own_d_prog_29_method_6_code_306 : decode prog_29_method_6_code 306 = .ok (.invokevirtual 71, 3) := by decide +kernel
theorem own_d_prog_29_method_6_code_309 : decode prog_29_method_6_code 309 = .ok (.ifCond .eq 7, 3) := by decide +kernel
theorem own_d_prog_29_method_6_code_316 : decode prog_29_method_6_code 316 = .ok (.getstatic 31, 3) := by decide +kernel
theorem own_d_prog_29_method_6_code_319 : decode prog_29_method_6_code 319 = .ok (.goto 44, 3) := by decide +kernel
theorem own_d_prog_29_method_6_code_312 : decode prog_29_method_6_code 312 = .ok (.aconst_null, 1) := by decide +kernel
theorem own_d_prog_29_method_6_code_313 : decode prog_29_method_6_code 313 = .ok (.goto 50, 3) := by decide +kernel
theorem own_d_prog_29_method_6_code_322 : decode prog_29_method_6_code 322 = .ok (.ldc 83, 2) := by decide +kernel
theorem own_d_prog_29_method_6_code_324 : decode prog_29_method_6_code 324 = .ok (.aload_n 1, 1) := by decide +kernel
theorem own_d_prog_29_method_6_code_325 : decode prog_29_method_6_code 325 = .ok (.invokevirtual 71, 3) := by decide +kernel
theorem own_d_prog_29_method_6_code_328 : decode prog_29_method_6_code 328 = .ok (.ifCond .eq 9, 3) := by decide +kernel
theorem own_d_prog_29_method_6_code_337 : decode prog_29_method_6_code 337 = .ok (.getstatic 34, 3) := by decide +kernel
theorem own_d_prog_29_method_6_code_340 : decode prog_29_method_6_code 340 = .ok (.goto 23, 3) := by decide +kernel
theorem own_d_prog_29_method_6_code_331 : decode prog_29_method_6_code 331 = .ok (.getstatic 37, 3) := by decide +kernel
theorem own_d_prog_29_method_6_code_334 : decode prog_29_method_6_code 334 = .ok (.goto 29, 3) := by decide +kernel
theorem own_d_prog_29_method_6_code_355 : decode prog_29_method_6_code 355 = .ok (.aload_n 1, 1) := by decide +kernel
theorem own_d_prog_29_method_6_code_356 : decode prog_29_method_6_code 356 = .ok (.invokestatic 85, 3) := by decide +kernel
theorem own_d_prog_29_method_6_code_359 : decode prog_29_method_6_code 359 = .ok (.goto 4, 3) := by decide +kernel
theorem own_d_prog_29_method_6_code_343 : decode prog_29_method_6_code 343 = .ok (.getstatic 37, 3) := by decide +kernel
theorem own_d_prog_29_method_6_code_346 : decode prog_29_method_6_code 346 = .ok (.goto 17, 3) := by decide +kernel
theorem own_d_prog_29_method_6_code_362 : decode prog_29_method_6_code 362 = .ok (.aconst_null, 1) := by decide +kernel
set_option maxRecDepth 65536 in
theorem own_hws {a0 : Array Value} {Z : State} (hw : ∀ d ∈ tables_1, d.before a0 Z = true) : ∀ d ∈ StrChars.Road.words, d.before a0 Z = true := fun d hd => hw d ((by decide +kernel : ∀ d ∈ StrChars.Road.words, d ∈ tables_1) d hd)
set_option maxRecDepth 65536 in
theorem own_heq {a0 : Array Value} {Z : State} (hw : ∀ d ∈ tables_1, d.before a0 Z = true) : ∀ d ∈ StrChars.Road.wordsEq, d.before a0 Z = true := fun d hd => hw d ((by decide +kernel : ∀ d ∈ StrChars.Road.wordsEq, d ∈ tables_1) d hd)
set_option maxRecDepth 65536 in
theorem own_hwS {a0 : Array Value} {Z : State} (hw : ∀ d ∈ tables_1, d.before a0 Z = true) : ∀ d ∈ Bundle.stringAtoms, d.before a0 Z = true := fun d hd => hw d ((by decide +kernel : ∀ d ∈ Bundle.stringAtoms, d ∈ tables_1) d hd)
def own_eqI (a b : List Int32) : Int32 := if a = b then 1 else 0
def own_SN (Z : State) (h : Heap) (nv : Value) (q : List Int32 → Int32) : Prop := (nv = .null ∧ q = fun _ => 0) ∨ (∃ (a : Addr) (cs : List Int32), nv = .ref a ∧ own_Str Z h a cs ∧ q = fun r => own_eqI r cs)
theorem own_SN.ext {Z : State} {h h' : Heap} {nv : Value} {q : List Int32 → Int32} (F : own_SN Z h nv q) (E : Ext h h') : own_SN Z h' nv q := F.elim Or.inl (fun ⟨a, cs, h1, h2, h3⟩ => Or.inr ⟨a, cs, h1, h2.ext E, h3⟩)
theorem own_SN.keep0 {Z : State} {h h' : Heap} {nv : Value} {q : List Int32 → Int32} (F : own_SN Z h nv q) (K : Keep h h' []) : own_SN Z h' nv q := F.elim Or.inl (fun ⟨a, cs, h1, h2, h3⟩ => Or.inr ⟨a, cs, h1, h2.keep0 K, h3⟩)
theorem own_SN.isref {Z : State} {h : Heap} {nv : Value} {q : List Int32 → Int32} (F : own_SN Z h nv q) : nv.isRef = true := by rcases F with ⟨rfl, -⟩ | ⟨a, cs, rfl, -⟩ <;> rfl
theorem own_chL (x : Int64) : ¬ ((x &&& (255 : Int64)).toInt32).toUInt32.toUInt16.toUInt32.toInt32 < 0 ∧ ¬ (255 : Int32) < ((x &&& (255 : Int64)).toInt32).toUInt32.toUInt16.toUInt32.toInt32 := by
  rw [Int64.toInt32_and, show (255 : Int64).toInt32 = (255 : Int32) from by decide]
  exact own_ch _
def own_names : List (String × Nat) := [("INT16", 0), ("INT32", 1), ("INT64", 2), ("FLOAT32", 3), ("FLOAT64", 4), ("DECIMAL", 5), ("BOOLEAN", 6), ("UTF8", 7), ("DATE", 8), ("TIME", 9), ("TIMESTAMP", 10), ("INSTANT", 11), ("BYTES", 12), ("UUID", 13)]
def own_exp (en : Nat → Addr) (t : Int32) (q : List Int32 → Int32) : Value := if t = (5 : Int32) then (.ref (en 0)) else if t = (4 : Int32) then (.ref (en 1)) else if t = (-5 : Int32) then (if q [111, 105, 100] = 0 then (.ref (en 2)) else .null) else if t = (7 : Int32) then (.ref (en 3)) else if t = (8 : Int32) then (if q [109, 111, 110, 101, 121] = 0 then (.ref (en 4)) else .null) else if t = (2 : Int32) then (.ref (en 5)) else if t = (3 : Int32) then (.ref (en 5)) else if t = (16 : Int32) then (.ref (en 6)) else if t = (-7 : Int32) then (if q [98, 111, 111, 108] = 0 then .null else (.ref (en 6))) else if t = (1 : Int32) then (.ref (en 7)) else if t = (12 : Int32) then (.ref (en 7)) else if t = (-1 : Int32) then (.ref (en 7)) else if t = (-15 : Int32) then (.ref (en 7)) else if t = (-9 : Int32) then (.ref (en 7)) else if t = (-16 : Int32) then (.ref (en 7)) else if t = (91 : Int32) then (.ref (en 8)) else if t = (92 : Int32) then (if q [116, 105, 109, 101, 116, 122] = 0 then (.ref (en 9)) else .null) else if t = (93 : Int32) then (if q [116, 105, 109, 101, 115, 116, 97, 109, 112, 116, 122] = 0 then (.ref (en 10)) else (.ref (en 11))) else if t = (2014 : Int32) then (.ref (en 11)) else if t = (-2 : Int32) then (.ref (en 12)) else if t = (-3 : Int32) then (.ref (en 12)) else if t = (-4 : Int32) then (.ref (en 12)) else if t = (2004 : Int32) then (.ref (en 12)) else if t = (1111 : Int32) then (if q [106, 115, 111, 110] = 0 then (if q [106, 115, 111, 110, 98] = 0 then (if q [117, 117, 105, 100] = 0 then .null else (.ref (en 13))) else (.ref (en 7))) else (.ref (en 7))) else .null
theorem own_expR (en : Nat → Addr) (t : Int32) (q : List Int32 → Int32) : (own_exp en t q).isRef = true := by
  unfold own_exp
  repeat' (first | rfl | refine own_iteR ?_ ?_)
theorem own_sw (t : Int32) : t = (-16 : Int32) ∨ t = (-15 : Int32) ∨ t = (-9 : Int32) ∨ t = (-7 : Int32) ∨ t = (-5 : Int32) ∨ t = (-4 : Int32) ∨ t = (-3 : Int32) ∨ t = (-2 : Int32) ∨ t = (-1 : Int32) ∨ t = (1 : Int32) ∨ t = (2 : Int32) ∨ t = (3 : Int32) ∨ t = (4 : Int32) ∨ t = (5 : Int32) ∨ t = (7 : Int32) ∨ t = (8 : Int32) ∨ t = (12 : Int32) ∨ t = (16 : Int32) ∨ t = (91 : Int32) ∨ t = (92 : Int32) ∨ t = (93 : Int32) ∨ t = (1111 : Int32) ∨ t = (2004 : Int32) ∨ t = (2014 : Int32) ∨ (¬ t = (-16 : Int32) ∧ ¬ t = (-15 : Int32) ∧ ¬ t = (-9 : Int32) ∧ ¬ t = (-7 : Int32) ∧ ¬ t = (-5 : Int32) ∧ ¬ t = (-4 : Int32) ∧ ¬ t = (-3 : Int32) ∧ ¬ t = (-2 : Int32) ∧ ¬ t = (-1 : Int32) ∧ ¬ t = (1 : Int32) ∧ ¬ t = (2 : Int32) ∧ ¬ t = (3 : Int32) ∧ ¬ t = (4 : Int32) ∧ ¬ t = (5 : Int32) ∧ ¬ t = (7 : Int32) ∧ ¬ t = (8 : Int32) ∧ ¬ t = (12 : Int32) ∧ ¬ t = (16 : Int32) ∧ ¬ t = (91 : Int32) ∧ ¬ t = (92 : Int32) ∧ ¬ t = (93 : Int32) ∧ ¬ t = (1111 : Int32) ∧ ¬ t = (2004 : Int32) ∧ ¬ t = (2014 : Int32)) := by
  by_cases n0 : t = (-16 : Int32)
  · exact Or.inl n0
  refine Or.inr ?_
  by_cases n1 : t = (-15 : Int32)
  · exact Or.inl n1
  refine Or.inr ?_
  by_cases n2 : t = (-9 : Int32)
  · exact Or.inl n2
  refine Or.inr ?_
  by_cases n3 : t = (-7 : Int32)
  · exact Or.inl n3
  refine Or.inr ?_
  by_cases n4 : t = (-5 : Int32)
  · exact Or.inl n4
  refine Or.inr ?_
  by_cases n5 : t = (-4 : Int32)
  · exact Or.inl n5
  refine Or.inr ?_
  by_cases n6 : t = (-3 : Int32)
  · exact Or.inl n6
  refine Or.inr ?_
  by_cases n7 : t = (-2 : Int32)
  · exact Or.inl n7
  refine Or.inr ?_
  by_cases n8 : t = (-1 : Int32)
  · exact Or.inl n8
  refine Or.inr ?_
  by_cases n9 : t = (1 : Int32)
  · exact Or.inl n9
  refine Or.inr ?_
  by_cases n10 : t = (2 : Int32)
  · exact Or.inl n10
  refine Or.inr ?_
  by_cases n11 : t = (3 : Int32)
  · exact Or.inl n11
  refine Or.inr ?_
  by_cases n12 : t = (4 : Int32)
  · exact Or.inl n12
  refine Or.inr ?_
  by_cases n13 : t = (5 : Int32)
  · exact Or.inl n13
  refine Or.inr ?_
  by_cases n14 : t = (7 : Int32)
  · exact Or.inl n14
  refine Or.inr ?_
  by_cases n15 : t = (8 : Int32)
  · exact Or.inl n15
  refine Or.inr ?_
  by_cases n16 : t = (12 : Int32)
  · exact Or.inl n16
  refine Or.inr ?_
  by_cases n17 : t = (16 : Int32)
  · exact Or.inl n17
  refine Or.inr ?_
  by_cases n18 : t = (91 : Int32)
  · exact Or.inl n18
  refine Or.inr ?_
  by_cases n19 : t = (92 : Int32)
  · exact Or.inl n19
  refine Or.inr ?_
  by_cases n20 : t = (93 : Int32)
  · exact Or.inl n20
  refine Or.inr ?_
  by_cases n21 : t = (1111 : Int32)
  · exact Or.inl n21
  refine Or.inr ?_
  by_cases n22 : t = (2004 : Int32)
  · exact Or.inl n22
  refine Or.inr ?_
  by_cases n23 : t = (2014 : Int32)
  · exact Or.inl n23
  refine Or.inr ?_
  exact ⟨n0, n1, n2, n3, n4, n5, n6, n7, n8, n9, n10, n11, n12, n13, n14, n15, n16, n17, n18, n19, n20, n21, n22, n23⟩
theorem own_getI (L : List Int32) (n : Nat) : (L.map Value.int).getD n (.int 0) = .int (L.getD n 0) := by
  rw [List.getD_eq_getElem?_getD, List.getD_eq_getElem?_getD, List.getElem?_map]; cases L[n]? <;> rfl
theorem own_m31 (x : Int32) : ¬ (x &&& (31 : Int32)) < 0 ∧ (x &&& (31 : Int32)) < 32 := by
  have h := c_mask x 31 5 (by decide) (by decide)
  constructor
  · rw [Int32.lt_iff_toInt_lt, h]; have e : (0 : Int32).toInt = 0 := rfl; omega
  · rw [Int32.lt_iff_toInt_lt, h]; have e : (32 : Int32).toInt = 32 := rfl; omega
set_option maxRecDepth 65536 in
set_option maxHeartbeats 40000000 in
theorem own_eqNull (l : Launch) (Z : State) (a0 : Array Value) (hw : ∀ d ∈ tables_1, d.before a0 Z = true) (a1 : Addr) (h0 : Heap) (n0 : Nat)  :
    own_Met l (⟨"java/lang/String", "equals", "(Ljava/lang/Object;)Z"⟩ : MethodName) jdk_42_method_66_code 3 (some .boolean) ({ frames := 0, cells := 0, slots := 0, locals := 0 } : Room) Z #[(.ref a1), .null] h0 (fun v h L => v = some (.int 0) ∧ L = [] ∧ h = h0) := by
  refine own_met (plainFor_of_name own_pn_java_lang_String) ?_
  intro p e s m below meth c T0 hx hby hml hZ hown hnm hret hlocks X0 e0 hh0
  have ef : entryFrame m #[(.ref a1), .null] 3 = mkF m 0 #[.val (.ref a1), .val .null, .unset] [] := by first | (simp [entryFrame, mkF, argsToLocals, Value.category]; done) | rfl
  refine own_entry ef ?_
  have N0 := Fr.nil n0
  refine own_aloadN X0 hx (hb hby own_d_jdk_42_method_66_code_0) rfl rfl rfl ?_
  refine own_aloadN X0 hx (hb hby own_d_jdk_42_method_66_code_1) rfl rfl rfl ?_
  refine own_acmp X0 hx (hb hby own_d_jdk_42_method_66_code_2) rfl rfl (by decide) rfl rfl (fun hc2_1 => ?_) (fun hc2_1 => absurd hc2_1 (by simp [acV]))
  refine own_aloadN X0 hx (hb hby own_d_jdk_42_method_66_code_7) rfl rfl rfl ?_
  refine own_instNull X0 hx (hb hby own_d_jdk_42_method_66_code_8) rfl ?_
  refine own_ifT X0 hx (hb hby own_d_jdk_42_method_66_code_11) (by decide) rfl (by decide) ?_
  refine own_iconst X0 hx (0 : Int32) (hb hby own_d_jdk_42_method_66_code_54) (by decide) rfl ?_
  exact own_retN X0 hx hlocks hret (by simp) (hb hby own_d_jdk_42_method_66_code_55) (by decide) (by decide) (by decide) ⟨rfl, rfl, e0⟩
theorem own_eqSN {p : Program} {l : Launch} {e : Env} {R : Room} {s : State} {args : Array Value} {below : List Frame} {len W : Nat} {Z : State} {a0 : Array Value} {h : Heap} (hZ : Z.Warmed39 s.vm) (hw : ∀ d ∈ tables_1, d.before a0 Z = true) {x : Addr} {cs : List Int32} (S1 : own_Str Z h x cs) {nv : Value} {q : List Int32 → Int32} (SN : own_SN Z h nv q)
    {z : Int32} (S : Sta Z h "java/lang/String" "COMPACT_STRINGS" "Z" (.int z)) (hz : ¬ z = 0) (hfr : 2 ≤ R.frames) (hlo : W + 28 ≤ R.locals) :
    Back l R p e below s args (⟨"java/lang/String", "equals", "(Ljava/lang/Object;)Z"⟩ : MethodName) len W (fun P a => a = #[.ref x, nv] ∧ P.U.heap = h ∧ P.cells + 0 ≤ R.cells ∧ P.slots + 0 ≤ R.slots)
      (fun P _ v B => ∃ L, (v = some (.int (q cs)) ∧ L = [] ∧ B.U.heap = h) ∧ B.locs = P.locs ++ L ∧ B.cells = P.cells + 0 ∧ B.slots = P.slots + 0) := by
  rcases SN with ⟨rfl, rfl⟩ | ⟨y, ds, rfl, S2, rfl⟩
  · exact backOf (l := l) (R := R) (rm := ({ frames := 0, cells := 0, slots := 0, locals := 0 } : Room)) (W := W) (len := len) (h := h) (as' := #[.ref x, .null]) (Q := fun v h' L => v = some (.int 0) ∧ L = [] ∧ h' = h) (own_eqNull l Z a0 hw x h 0 []) hZ (hw _ (List.mem_of_getElem? (i := 21) rfl)) (hw _ (List.mem_of_getElem? (i := 6) rfl)) (by show 0 + 1 ≤ _; omega) (by show W + (3 + 11) + 0 ≤ _; omega)
  · obtain ⟨t1, k1, c1, n1, v1, h1, h2, h3, h4, h5, h6, h7⟩ := S1
    obtain ⟨t2, k2, c2, n2, v2, i1, i2, i3, i4, i5, i6, i7⟩ := S2
    intro m meth c P g ig mk a X hg hsize hdg hW hn hp'
    obtain ⟨v, B, X', ⟨L, ⟨hv, hL, hh⟩, hr⟩, st⟩ := StrChars.Road.eqW (l := l) (R := R) (W := W) (len := len) hZ (own_heq hw) (kI := 4) (hw _ (List.mem_of_getElem? (i := 7) rfl)) h1 h2 h3 h4 h5 h6 h7 i1 i2 i3 i4 i5 i6 i7 S hz hfr hlo m meth c P g ig mk a X hg hsize hdg hW hn hp'
    refine ⟨v, B, X', ⟨L, ⟨?_, hL, hh⟩, hr⟩, st⟩
    rcases hv with ⟨rfl, qq⟩ | ⟨rfl, qq⟩
    · show some (Value.int 1) = some (Value.int (own_eqI cs ds)); rw [own_eqI, if_pos qq]
    · show some (Value.int 0) = some (Value.int (own_eqI cs ds)); rw [own_eqI, if_neg qq]
set_option maxRecDepth 65536 in
set_option maxHeartbeats 40000000 in
theorem own_optInit (l : Launch) (Z : State) (a0 : Array Value) (hw : ∀ d ∈ tables_1, d.before a0 Z = true) (o1 x1 : Addr) (h0 : Heap) (n0 : Nat) (g_o1 : n0 ≤ o1) (E0 : Exa Z h0 o1 "java/util/Optional") (F1 : Fld Z h0 o1 "java/util/Optional" "value" "Ljava/lang/Object;" .null) :
    own_Met l (⟨"java/util/Optional", "<init>", "(Ljava/lang/Object;)V"⟩ : MethodName) jdk_32_method_2_code 2 none ({ frames := 1, cells := 0, slots := 0, locals := 12 } : Room) Z #[(.ref o1), (.ref x1)] h0 (fun v h L => v = none ∧ Fr n0 L ∧ Keep h0 h [o1] ∧ Exa Z h o1 "java/util/Optional" ∧ Fld Z h o1 "java/util/Optional" "value" "Ljava/lang/Object;" (.ref x1)) := by
  refine own_met (plainFor_of_name own_pn_java_util_Optional) ?_
  intro p e s m below meth c T0 hx hby hml hZ hown hnm hret hlocks X0 e0 hh0
  have ef : entryFrame m #[(.ref o1), (.ref x1)] 2 = mkF m 0 #[.val (.ref o1), .val (.ref x1)] [] := by first | (simp [entryFrame, mkF, argsToLocals, Value.category]; done) | rfl
  refine own_entry ef ?_
  have N0 := Fr.nil n0
  have K0 := Keep.refl h0 [o1]
  refine own_aloadN X0 hx (hb hby own_d_jdk_32_method_2_code_0) rfl rfl rfl ?_
  refine own_initO X0 hx hZ hown (hw _ (List.mem_of_getElem? (i := 78) rfl)) (hw _ (List.mem_of_getElem? (i := 64) rfl)) (hw _ (List.mem_of_getElem? (i := 65) rfl)) e0 (by rw [hml]; rfl) (hb hby own_d_jdk_32_method_2_code_1) 0 rfl (by decide) (by decide) rfl ?_
  intro T1 X1 e1
  refine own_aloadN X1 hx (hb hby own_d_jdk_32_method_2_code_4) rfl rfl rfl ?_
  refine own_aloadN X1 hx (hb hby own_d_jdk_32_method_2_code_5) rfl rfl rfl ?_
  refine own_putF X1 hx hZ hown (host := "") (Or.inl (hw _ (List.mem_of_getElem? (i := 51) rfl))) Via.refl e1 F1 E0 (Or.inr ⟨(hw _ (List.mem_of_getElem? (i := 52) rfl)), rfl, hnm⟩) (hw _ (List.mem_of_getElem? (i := 73) rfl)) (ty := (.object "java/lang/Object")) (by decide) rfl rfl N0 g_o1 (hb hby own_d_jdk_32_method_2_code_6) rfl ?_
  intro T2 h2 X2 e2 W2 N2
  have K3 := K0.wr W2 (Or.inl (List.mem_of_getElem? (i := 0) rfl))
  have f4 := F1.same W2
  have f5 := (E0.wr W2)
  exact own_ret X2 hx hlocks hret (hb hby own_d_jdk_32_method_2_code_9) (by decide) (by decide) ⟨rfl, N2, by rw [e2]; exact ⟨K3, f5, f4⟩⟩
set_option maxRecDepth 65536 in
set_option maxHeartbeats 40000000 in
theorem own_ofNullableN (l : Launch) (Z : State) (a0 : Array Value) (hw : ∀ d ∈ tables_1, d.before a0 Z = true) (em : Addr) (h0 : Heap) (n0 : Nat) (O0 : Old Z n0 h0) (SE : Sta Z Z.heap "java/util/Optional" "EMPTY" "Ljava/util/Optional;" (.ref em)) (XE : Exa Z Z.heap em "java/util/Optional") (FE : Fld Z Z.heap em "java/util/Optional" "value" "Ljava/lang/Object;" .null) :
    own_Met l (⟨"java/util/Optional", "ofNullable", "(Ljava/lang/Object;)Ljava/util/Optional;"⟩ : MethodName) jdk_32_method_4_code 1 (some (.object "java/util/Optional")) ({ frames := 2, cells := 1, slots := 1, locals := 26 } : Room) Z #[.null] h0 (fun v h L => ∃ op : Addr, v = some (.ref op) ∧ Fr n0 L ∧ Keep h0 h [] ∧ Exa Z h op "java/util/Optional" ∧ Fld Z h op "java/util/Optional" "value" "Ljava/lang/Object;" .null) := by
  refine own_met (plainFor_of_name own_pn_java_util_Optional) ?_
  intro p e s m below meth c T0 hx hby hml hZ hown hnm hret hlocks X0 e0 hh0
  have ef : entryFrame m #[.null] 1 = mkF m 0 #[.val .null] [] := by first | (simp [entryFrame, mkF, argsToLocals, Value.category]; done) | rfl
  refine own_entry ef ?_
  have N0 := Fr.nil n0
  have K0 := Keep.refl h0 []
  refine own_aloadN X0 hx (hb hby own_d_jdk_32_method_4_code_0) rfl rfl rfl ?_
  refine own_ifnonnullF X0 hx (hb hby own_d_jdk_32_method_4_code_1) rfl ?_
  refine own_getS X0 hx hZ hown (host := "") (Or.inl (hw _ (List.mem_of_getElem? (i := 45) rfl))) Via.refl e0 (SE.ext O0.2) (hb hby own_d_jdk_32_method_4_code_4) rfl ?_
  intro T1 X1 e1
  refine own_goto X1 hx (hb hby own_d_jdk_32_method_4_code_7) (by decide) rfl ?_
  exact own_retA X1 hx hlocks hret rfl rfl (hb hby own_d_jdk_32_method_4_code_18) (by decide) (by decide) ⟨em, rfl, N0, by rw [e1]; exact ⟨K0, (XE.ext O0.2), (FE.ext O0.2)⟩⟩
set_option maxRecDepth 65536 in
set_option maxHeartbeats 40000000 in
theorem own_ofNullableR (l : Launch) (Z : State) (a0 : Array Value) (hw : ∀ d ∈ tables_1, d.before a0 Z = true) (em x1 : Addr) (h0 : Heap) (n0 : Nat) (O0 : Old Z n0 h0) (SE : Sta Z Z.heap "java/util/Optional" "EMPTY" "Ljava/util/Optional;" (.ref em)) (XE : Exa Z Z.heap em "java/util/Optional") (FE : Fld Z Z.heap em "java/util/Optional" "value" "Ljava/lang/Object;" .null) :
    own_Met l (⟨"java/util/Optional", "ofNullable", "(Ljava/lang/Object;)Ljava/util/Optional;"⟩ : MethodName) jdk_32_method_4_code 1 (some (.object "java/util/Optional")) ({ frames := 2, cells := 1, slots := 1, locals := 26 } : Room) Z #[(.ref x1)] h0 (fun v h L => ∃ op : Addr, v = some (.ref op) ∧ Fr n0 L ∧ Keep h0 h [] ∧ Exa Z h op "java/util/Optional" ∧ Fld Z h op "java/util/Optional" "value" "Ljava/lang/Object;" (.ref x1)) := by
  refine own_met (plainFor_of_name own_pn_java_util_Optional) ?_
  intro p e s m below meth c T0 hx hby hml hZ hown hnm hret hlocks X0 e0 hh0
  have ef : entryFrame m #[(.ref x1)] 1 = mkF m 0 #[.val (.ref x1)] [] := by first | (simp [entryFrame, mkF, argsToLocals, Value.category]; done) | rfl
  refine own_entry ef ?_
  have N0 := Fr.nil n0
  have K0 := Keep.refl h0 []
  refine own_aloadN X0 hx (hb hby own_d_jdk_32_method_4_code_0) rfl rfl rfl ?_
  refine own_ifnonnullT X0 hx (hb hby own_d_jdk_32_method_4_code_1) (by decide) rfl ?_
  refine own_new X0 hx hZ hown (hw _ (List.mem_of_getElem? (i := 72) rfl)) (hw _ (List.mem_of_getElem? (i := 73) rfl)) (hw _ (List.mem_of_getElem? (i := 43) rfl)) e0 (hb hby own_d_jdk_32_method_4_code_10) (by decide) (by decide) rfl ?_
  intro T1 h1 b1 X1 e1 g1 E1 A1 D1
  have g_b1 : n0 ≤ b1 := Nat.le_trans (own_oz O0) (Nat.le_of_eq g1.symm)
  have sz_b1 : h0.size ≤ b1 := Nat.le_trans K0.1 (Nat.le_of_eq g1.symm)
  have K2 := K0.ext E1
  have Fb1_value : Fld Z h1 b1 "java/util/Optional" "value" "Ljava/lang/Object;" .null := D1 (Or.inr (hw _ (List.mem_of_getElem? (i := 52) rfl))) (ty := (.object "java/lang/Object")) (by decide)
  refine own_dup X1 hx (hb hby own_d_jdk_32_method_4_code_13) rfl rfl ?_
  refine own_aloadN X1 hx (hb hby own_d_jdk_32_method_4_code_14) rfl rfl rfl ?_
  refine own_special X1 hx hZ (y := (⟨"java/util/Optional", "<init>", "(Ljava/lang/Object;)V"⟩ : MethodName)) rfl hown (hw _ (List.mem_of_getElem? (i := 74) rfl)) (hw _ (List.mem_of_getElem? (i := 75) rfl)) (hw _ (List.mem_of_getElem? (i := 43) rfl)) (hw _ (List.mem_of_getElem? (i := 77) rfl)) (by decide) e1 (by decide) (W := 1) (by decide) (by decide) (by decide) [(.ref x1)] [(.ref b1)] (by rw [hml]; rfl) (a := b1) (own_optInit l Z a0 hw b1 x1 h1 n0 g_b1 A1 Fb1_value) own_pd0 rfl rfl rfl (hb hby own_d_jdk_32_method_4_code_15) rfl ?_
  intro v3 T3 L3 X3 hQ3
  obtain ⟨rfl, Nq3, Kq3, Es3, Vs3⟩ := hQ3
  have N3 := Fr.app N0 Nq3
  have K4 := K2.trans Kq3 (allS (Or.inr sz_b1) all0)
  show own_Ends p e below _ (T3.setTop (mkF m 18 #[.val (.ref x1)] [(.ref b1)]))
  exact own_retA X3 hx hlocks hret rfl rfl (hb hby own_d_jdk_32_method_4_code_18) (by decide) (by decide) ⟨b1, rfl, N3, by exact ⟨K4, Es3, Vs3⟩⟩
theorem own_ofNullable (l : Launch) (Z : State) (a0 : Array Value) (hw : ∀ d ∈ tables_1, d.before a0 Z = true) (em : Addr) (v1 : Value) (h0 : Heap) (n0 : Nat) (hr : v1.isRef = true) (O0 : Old Z n0 h0) (SE : Sta Z Z.heap "java/util/Optional" "EMPTY" "Ljava/util/Optional;" (.ref em)) (XE : Exa Z Z.heap em "java/util/Optional") (FE : Fld Z Z.heap em "java/util/Optional" "value" "Ljava/lang/Object;" .null) : own_Met l (⟨"java/util/Optional", "ofNullable", "(Ljava/lang/Object;)Ljava/util/Optional;"⟩ : MethodName) jdk_32_method_4_code 1 (some (.object "java/util/Optional")) ({ frames := 2, cells := 1, slots := 1, locals := 26 } : Room) Z #[v1] h0 (fun v h L => ∃ op : Addr, v = some (.ref op) ∧ Fr n0 L ∧ Keep h0 h [] ∧ Exa Z h op "java/util/Optional" ∧ Fld Z h op "java/util/Optional" "value" "Ljava/lang/Object;"  v1) := by
  cases v1 <;> first | exact own_ofNullableN l Z a0 hw em h0 n0 O0 SE XE FE | exact own_ofNullableR l Z a0 hw em _ h0 n0 O0 SE XE FE | cases hr
set_option maxRecDepth 65536 in
set_option maxHeartbeats 40000000 in
theorem own_orElseN (l : Launch) (Z : State) (a0 : Array Value) (hw : ∀ d ∈ tables_1, d.before a0 Z = true) (o1 : Addr) (h0 : Heap) (n0 : Nat) (F1 : Fld Z h0 o1 "java/util/Optional" "value" "Ljava/lang/Object;" .null) :
    own_Met l (⟨"java/util/Optional", "orElse", "(Ljava/lang/Object;)Ljava/lang/Object;"⟩ : MethodName) jdk_32_method_15_code 2 (some (.object "java/lang/Object")) ({ frames := 0, cells := 0, slots := 0, locals := 0 } : Room) Z #[(.ref o1), .null] h0 (fun v h L => v = some .null ∧ Fr n0 L ∧ h = h0) := by
  refine own_met (plainFor_of_name own_pn_java_util_Optional) ?_
  intro p e s m below meth c T0 hx hby hml hZ hown hnm hret hlocks X0 e0 hh0
  have ef : entryFrame m #[(.ref o1), .null] 2 = mkF m 0 #[.val (.ref o1), .val .null] [] := by first | (simp [entryFrame, mkF, argsToLocals, Value.category]; done) | rfl
  refine own_entry ef ?_
  have N0 := Fr.nil n0
  refine own_aloadN X0 hx (hb hby own_d_jdk_32_method_15_code_0) rfl rfl rfl ?_
  refine own_getF X0 hx hZ hown (host := "") (Or.inl (hw _ (List.mem_of_getElem? (i := 51) rfl))) Via.refl e0 F1 (hb hby own_d_jdk_32_method_15_code_1) rfl ?_
  intro T1 X1 e1
  refine own_ifnullT X1 hx (hb hby own_d_jdk_32_method_15_code_4) (by decide) rfl ?_
  refine own_aloadN X1 hx (hb hby own_d_jdk_32_method_15_code_14) rfl rfl rfl ?_
  exact own_retA X1 hx hlocks hret rfl rfl (hb hby own_d_jdk_32_method_15_code_15) (by decide) (by decide) ⟨rfl, N0, e1⟩
set_option maxRecDepth 65536 in
set_option maxHeartbeats 40000000 in
theorem own_orElseR (l : Launch) (Z : State) (a0 : Array Value) (hw : ∀ d ∈ tables_1, d.before a0 Z = true) (o1 x1 : Addr) (h0 : Heap) (n0 : Nat) (F1 : Fld Z h0 o1 "java/util/Optional" "value" "Ljava/lang/Object;" (.ref x1)) :
    own_Met l (⟨"java/util/Optional", "orElse", "(Ljava/lang/Object;)Ljava/lang/Object;"⟩ : MethodName) jdk_32_method_15_code 2 (some (.object "java/lang/Object")) ({ frames := 0, cells := 0, slots := 0, locals := 0 } : Room) Z #[(.ref o1), .null] h0 (fun v h L => v = some (.ref x1) ∧ Fr n0 L ∧ h = h0) := by
  refine own_met (plainFor_of_name own_pn_java_util_Optional) ?_
  intro p e s m below meth c T0 hx hby hml hZ hown hnm hret hlocks X0 e0 hh0
  have ef : entryFrame m #[(.ref o1), .null] 2 = mkF m 0 #[.val (.ref o1), .val .null] [] := by first | (simp [entryFrame, mkF, argsToLocals, Value.category]; done) | rfl
  refine own_entry ef ?_
  have N0 := Fr.nil n0
  refine own_aloadN X0 hx (hb hby own_d_jdk_32_method_15_code_0) rfl rfl rfl ?_
  refine own_getF X0 hx hZ hown (host := "") (Or.inl (hw _ (List.mem_of_getElem? (i := 51) rfl))) Via.refl e0 F1 (hb hby own_d_jdk_32_method_15_code_1) rfl ?_
  intro T1 X1 e1
  refine own_ifnullF X1 hx (hb hby own_d_jdk_32_method_15_code_4) rfl ?_
  refine own_aloadN X1 hx (hb hby own_d_jdk_32_method_15_code_7) rfl rfl rfl ?_
  refine own_getF X1 hx hZ hown (host := "") (Or.inl (hw _ (List.mem_of_getElem? (i := 51) rfl))) Via.refl e1 F1 (hb hby own_d_jdk_32_method_15_code_8) rfl ?_
  intro T2 X2 e2
  refine own_goto X2 hx (hb hby own_d_jdk_32_method_15_code_11) (by decide) rfl ?_
  exact own_retA X2 hx hlocks hret rfl rfl (hb hby own_d_jdk_32_method_15_code_15) (by decide) (by decide) ⟨rfl, N0, e2⟩
theorem own_orElse (l : Launch) (Z : State) (a0 : Array Value) (hw : ∀ d ∈ tables_1, d.before a0 Z = true) (o1 : Addr) (v1 : Value) (h0 : Heap) (n0 : Nat) (hr : v1.isRef = true) (F1 : Fld Z h0 o1 "java/util/Optional" "value" "Ljava/lang/Object;" v1) : own_Met l (⟨"java/util/Optional", "orElse", "(Ljava/lang/Object;)Ljava/lang/Object;"⟩ : MethodName) jdk_32_method_15_code 2 (some (.object "java/lang/Object")) ({ frames := 0, cells := 0, slots := 0, locals := 0 } : Room) Z #[.ref o1, .null] h0 (fun v h L => v = some v1 ∧ Fr n0 L ∧ h = h0) := by
  cases v1 <;> first | exact own_orElseN l Z a0 hw o1 h0 n0 F1 | exact own_orElseR l Z a0 hw o1 _ h0 n0 F1 | cases hr
set_option maxRecDepth 65536 in
set_option maxHeartbeats 40000000 in
theorem own_s4 (l : Launch) (Z : State) (a0 : Array Value) (hw : ∀ d ∈ tables_1, d.before a0 Z = true) (a1 c1 : Addr) (h0 : Heap) (n0 : Nat) (hEL : EW Z a0 consts_1) (O0 : Old Z n0 h0) (g_a1 : n0 ≤ a1) (E0 : Exa Z h0 a1 "java/lang/String") (F1 : Fld Z h0 a1 "java/lang/String" "value" "[B" .null) (F2 : Fld Z h0 a1 "java/lang/String" "coder" "B" (.int (0 : Int32))) :
    own_MetH l (⟨"java/lang/String", "<init>", "([CIILjava/lang/Void;)V"⟩ : MethodName) jdk_42_method_149_code 6 none ({ frames := 1, cells := 4, slots := 8, locals := 12 } : Room) Z consts_1 #[(.ref a1), (.ref c1), (.int (0 : Int32)), (.int (0 : Int32)), .null] h0 (fun v h L => v = none ∧ Fr n0 L ∧ Keep h0 h [a1] ∧ own_Str Z h a1 []) := by
  refine own_metH (plainFor_of_name own_pn_java_lang_String) ?_
  intro p e s m below meth c T0 hx hby hml hZ hown hnm hret hlocks X0 e0 hh0 HH0
  have ef : entryFrame m #[(.ref a1), (.ref c1), (.int (0 : Int32)), (.int (0 : Int32)), .null] 6 = mkF m 0 #[.val (.ref a1), .val (.ref c1), .val (.int (0 : Int32)), .val (.int (0 : Int32)), .val .null, .unset] [] := by first | (simp [entryFrame, mkF, argsToLocals, Value.category]; done) | rfl
  refine own_entry ef ?_
  have N0 := Fr.nil n0
  have K0 := Keep.refl h0 [a1]
  have hwS := own_hwS hw
  have Y0 := own_safeNull (EL := consts_1) hZ.alike E0 F1
  refine own_aloadN X0 hx (hb hby own_d_jdk_42_method_149_code_0) rfl rfl rfl ?_
  refine own_initO X0 hx hZ hown (hw _ (List.mem_of_getElem? (i := 63) rfl)) (hw _ (List.mem_of_getElem? (i := 64) rfl)) (hw _ (List.mem_of_getElem? (i := 65) rfl)) e0 (by rw [hml]; rfl) (hb hby own_d_jdk_42_method_149_code_1) 0 rfl (by decide) (by decide) rfl ?_
  intro T1 X1 e1
  refine own_iloadN X1 hx (hb hby own_d_jdk_42_method_149_code_4) rfl rfl ?_
  refine own_ifF X1 hx (hb hby own_d_jdk_42_method_149_code_5) rfl (by decide) ?_
  refine own_aloadN X1 hx (hb hby own_d_jdk_42_method_149_code_8) rfl rfl rfl ?_
  refine own_ldcS X1 hx hZ hown (hw _ (List.mem_of_getElem? (i := 66) rfl)) hwS e1 HH0 hEL (List.mem_of_getElem? (i := 16) rfl) (vs := ((([] : List Int32).map StrChars.lo8).map Value.int)) (z := (0 : Int32)) (by decide +kernel) (by decide) (by decide) (hb hby own_d_jdk_42_method_149_code_9) 0 (by decide) (by decide) (by decide) (by decide) rfl ?_
  intro ls2 T2 h2 lt2 k2 X2 e2 E2 hZ hown HH2 A2 Ex2 Fc2 Fv2 V2 ne2
  have K3 := K0.ext E2
  have f4 := (CHr.safe A2 E0.lt Y0)
  have nq2_a1 := ne2 _ f4
  refine own_getF X2 hx hZ hown (host := "") (Or.inl (hw _ (List.mem_of_getElem? (i := 26) rfl))) Via.refl e2 Fv2 (hb hby own_d_jdk_42_method_149_code_11) rfl ?_
  intro T5 X5 e5
  have f6 := (F1.ext E2)
  have f7 := (E0.ext E2)
  refine own_putF X5 hx hZ hown (host := "") (Or.inl (hw _ (List.mem_of_getElem? (i := 26) rfl))) Via.refl e5 f6 f7 (Or.inr ⟨(hw _ (List.mem_of_getElem? (i := 9) rfl)), rfl, hnm⟩) (hw _ (List.mem_of_getElem? (i := 7) rfl)) (ty := (.array .byte)) (by decide) rfl rfl N0 g_a1 (hb hby own_d_jdk_42_method_149_code_14) rfl ?_
  intro T8 h8 X8 e8 W8 N8
  have HH9 := HH2.wr W8 f4
  have K10 := K3.wr W8 (Or.inl (List.mem_of_getElem? (i := 0) rfl))
  have f11 := f6.same W8
  refine own_aloadN X8 hx (hb hby own_d_jdk_42_method_149_code_17) rfl rfl rfl ?_
  refine own_ldcS X8 hx hZ hown (hw _ (List.mem_of_getElem? (i := 66) rfl)) hwS e8 HH9 hEL (List.mem_of_getElem? (i := 16) rfl) (vs := ((([] : List Int32).map StrChars.lo8).map Value.int)) (z := (0 : Int32)) (by decide +kernel) (by decide) (by decide) (hb hby own_d_jdk_42_method_149_code_18) 0 (by decide) (by decide) (by decide) (by decide) rfl ?_
  intro ls12 T12 h12 lt12 k12 X12 e12 E12 hZ hown HH12 A12 Ex12 Fc12 Fv12 V12 ne12
  have K13 := K10.ext E12
  have f14 := (CHr.safe A12 f11.lt (own_sfW f4 W8 f4 HH2))
  have nq12_a1 := ne12 _ f14
  refine own_getF X12 hx hZ hown (host := "") (Or.inl (hw _ (List.mem_of_getElem? (i := 25) rfl))) Via.refl e12 Fc12 (hb hby own_d_jdk_42_method_149_code_20) rfl ?_
  intro T15 X15 e15
  have f16 := (((F2.ext E2).other W8 (Or.inr (slot_ne (Or.inr (hw _ (List.mem_of_getElem? (i := 10) rfl))) (Or.inr (hw _ (List.mem_of_getElem? (i := 9) rfl))) (by decide) (t := .byte) (t' := (.array .byte)) (by decide) (by decide)))).ext E12)
  have f17 := ((f7.wr W8).ext E12)
  refine own_putFN X15 hx hZ hown (hw _ (List.mem_of_getElem? (i := 25) rfl)) Via.refl e15 (.int (0 : Int32)) f16 f17 (Or.inr ⟨(hw _ (List.mem_of_getElem? (i := 10) rfl)), rfl, hnm⟩) (hw _ (List.mem_of_getElem? (i := 7) rfl)) (ty := .byte) (by decide) rfl rfl N8 g_a1 (hb hby own_d_jdk_42_method_149_code_23) rfl ?_
  intro T18 h18 X18 e18 W18 N18
  have HH19 := HH12.wr W18 f14
  have K20 := K13.wr W18 (Or.inl (List.mem_of_getElem? (i := 0) rfl))
  have f21 := f16.same W18
  have f22 := (f17.wr W18)
  have f23 := ((f11.ext E12).other W18 (Or.inr (slot_ne (Or.inr (hw _ (List.mem_of_getElem? (i := 9) rfl))) (Or.inr (hw _ (List.mem_of_getElem? (i := 10) rfl))) (by decide) (t := (.array .byte)) (t' := .byte) (by decide) (by decide))))
  have f24 := (((V2.other W8 (Ne.symm nq2_a1.2)).ext E12).other W18 (Ne.symm nq2_a1.2))
  exact own_retH X18 hx hZ e18 HH19 hEL hlocks hret (hb hby own_d_jdk_42_method_149_code_26) (by decide) (by decide) ⟨rfl, N18, by rw [e18]; exact ⟨K20, _, _, _, _, _, f22, f23, f21, f24, StrChars.Road.codOf (cs := []) (n := 0) rfl (by decide), own_c0, (by decide)⟩⟩
set_option maxRecDepth 65536 in
set_option maxHeartbeats 40000000 in
theorem own_s1 (l : Launch) (Z : State) (a0 : Array Value) (hw : ∀ d ∈ tables_1, d.before a0 Z = true) (a1 c1 : Addr) (kc : ClassId) (h0 : Heap) (n0 : Nat) (hEL : EW Z a0 consts_1) (O0 : Old Z n0 h0) (g_a1 : n0 ≤ a1) (E0 : Exa Z h0 a1 "java/lang/String") (F1 : Fld Z h0 a1 "java/lang/String" "value" "[B" .null) (F2 : Fld Z h0 a1 "java/lang/String" "coder" "B" (.int (0 : Int32))) (V0 : Arv Z h0 c1 kc .char (0 : Int32) [] (.int (0 : Int32))) :
    own_MetH l (⟨"java/lang/String", "<init>", "([C)V"⟩ : MethodName) jdk_42_method_3_code 2 none ({ frames := 2, cells := 4, slots := 8, locals := 29 } : Room) Z consts_1 #[(.ref a1), (.ref c1)] h0 (fun v h L => v = none ∧ Fr n0 L ∧ Keep h0 h [a1] ∧ own_Str Z h a1 []) := by
  refine own_metH (plainFor_of_name own_pn_java_lang_String) ?_
  intro p e s m below meth c T0 hx hby hml hZ hown hnm hret hlocks X0 e0 hh0 HH0
  have ef : entryFrame m #[(.ref a1), (.ref c1)] 2 = mkF m 0 #[.val (.ref a1), .val (.ref c1)] [] := by first | (simp [entryFrame, mkF, argsToLocals, Value.category]; done) | rfl
  refine own_entry ef ?_
  have N0 := Fr.nil n0
  have K0 := Keep.refl h0 [a1]
  have hwS := own_hwS hw
  have Y0 := own_safeNull (EL := consts_1) hZ.alike E0 F1
  refine own_aloadN X0 hx (hb hby own_d_jdk_42_method_3_code_0) rfl rfl rfl ?_
  refine own_aloadN X0 hx (hb hby own_d_jdk_42_method_3_code_1) rfl rfl rfl ?_
  refine own_iconst X0 hx (0 : Int32) (hb hby own_d_jdk_42_method_3_code_2) (by decide) rfl ?_
  refine own_aloadN X0 hx (hb hby own_d_jdk_42_method_3_code_3) rfl rfl rfl ?_
  refine own_arraylength X0 hx hZ e0 V0 (hb hby own_d_jdk_42_method_3_code_4) rfl ?_
  refine own_aconst_null X0 hx (hb hby own_d_jdk_42_method_3_code_5) rfl ?_
  refine own_specialH X0 hx hZ (y := (⟨"java/lang/String", "<init>", "([CIILjava/lang/Void;)V"⟩ : MethodName)) rfl hown (hw _ (List.mem_of_getElem? (i := 60) rfl)) (hw _ (List.mem_of_getElem? (i := 61) rfl)) (hw _ (List.mem_of_getElem? (i := 6) rfl)) (hw _ (List.mem_of_getElem? (i := 62) rfl)) (by decide) HH0 hEL e0 (by decide) (W := 0) (by decide) (by decide) (by decide) [(.ref c1), (.int (0 : Int32)), (.int (0 : Int32)), .null] [] (by rw [hml]; rfl) (a := a1) (own_s4 l Z a0 hw a1 c1 h0 n0 hEL O0 g_a1 E0 F1 F2) own_pd1 rfl rfl rfl (hb hby own_d_jdk_42_method_3_code_6) rfl ?_
  intro v1 T1 L1 X1 hQ1 hZ hown HH1 A1
  obtain ⟨rfl, Nq1, Kq1, Ss1⟩ := hQ1
  have N1 := Fr.app N0 Nq1
  have K2 := K0.trans Kq1 (allS (Or.inl (List.mem_of_getElem? (i := 0) rfl)) all0)
  show own_Ends p e below _ (T1.setTop (mkF m 9 #[.val (.ref a1), .val (.ref c1)] []))
  exact own_retH X1 hx hZ rfl HH1 hEL hlocks hret (hb hby own_d_jdk_42_method_3_code_9) (by decide) (by decide) ⟨rfl, N1, K2, Ss1⟩
set_option maxRecDepth 65536 in
set_option maxHeartbeats 40000000 in
theorem own_typeName (l : Launch) (Z : State) (a0 : Array Value) (hw : ∀ d ∈ tables_1, d.before a0 Z = true) (p1 zc : Int32) (p2 : Int64) (en : Nat → Addr) (em : Addr) (h0 : Heap) (n0 : Nat) (hEL : EW Z a0 consts_1) (O0 : Old Z n0 h0) (SC : Sta Z Z.heap "java/lang/String" "COMPACT_STRINGS" "Z" (.int zc)) (hzc : ¬ zc = 0) (HS : ∀ q ∈ own_names, Sta Z Z.heap "com/example/kinfold/kinfold/ValueEncoding" q.1 "Lcom/example/kinfold/kinfold/ValueEncoding;" (.ref (en q.2))) (SE : Sta Z Z.heap "java/util/Optional" "EMPTY" "Ljava/util/Optional;" (.ref em)) (XE : Exa Z Z.heap em "java/util/Optional") (FE : Fld Z Z.heap em "java/util/Optional" "value" "Ljava/lang/Object;" .null) :
    own_MetH l (⟨"com/example/kinfold/kinfold/ValueEncodingForTypePinLaw", "typeName", "(IJ)Ljava/lang/String;"⟩ : MethodName) method_3_code 9 (some (.object "java/lang/String")) ({ frames := 4, cells := 6, slots := 48, locals := 66 } : Room) Z consts_1 #[(.int p1), (.long p2)] h0 (fun v h L => ∃ (nv : Value) (q : List Int32 → Int32), v = some nv ∧ Fr n0 L ∧ Keep h0 h [] ∧ own_SN Z h nv q) := by
  refine own_metH (plainFor_of_name own_pn_com_example_kinfold_kinfold_ValueEncodingForTypePinLaw) ?_
  intro p e s m below meth c T0 hx hby hml hZ hown hnm hret hlocks X0 e0 hh0 HH0
  have ef : entryFrame m #[(.int p1), (.long p2)] 9 = mkF m 0 #[.val (.int p1), .val (.long p2), .second, .unset, .unset, .unset, .unset, .unset, .unset] [] := by first | (simp [entryFrame, mkF, argsToLocals, Value.category]; done) | rfl
  refine own_entry ef ?_
  have N0 := Fr.nil n0
  have K0 := Keep.refl h0 []
  have hwS := own_hwS hw
  refine own_iloadN X0 hx (hb hby own_d_method_3_code_0) rfl rfl ?_
  refine own_bipush X0 hx (15 : Int32) (hb hby own_d_method_3_code_1) (by decide) rfl ?_
  refine own_iand X0 hx (hb hby own_d_method_3_code_3) rfl ?_
  refine own_istoreN X0 hx #[.val (.int p1), .val (.long p2), .second, .val (.int (p1 &&& (15 : Int32))), .unset, .unset, .unset, .unset, .unset] (hb hby own_d_method_3_code_4) rfl rfl ?_
  refine own_iloadN X0 hx (hb hby own_d_method_3_code_5) rfl rfl ?_
  refine own_if_ne X0 hx (hb hby own_d_method_3_code_6) (by decide) rfl rfl (fun hc6_1 => ?_) (fun hc6_1 => ?_)
  · refine own_iloadN X0 hx (hb hby own_d_method_3_code_11) rfl rfl ?_
    refine own_iconst X0 hx (1 : Int32) (hb hby own_d_method_3_code_12) (by decide) rfl ?_
    refine own_icmp_ne X0 hx (hb hby own_d_method_3_code_13) (by decide) rfl rfl (fun hc13_2 => ?_) (fun hc13_2 => ?_)
    · refine own_iloadN X0 hx (hb hby own_d_method_3_code_19) rfl rfl ?_
      refine own_iconst X0 hx (2 : Int32) (hb hby own_d_method_3_code_20) (by decide) rfl ?_
      refine own_icmp_ne X0 hx (hb hby own_d_method_3_code_21) (by decide) rfl rfl (fun hc21_3 => ?_) (fun hc21_3 => ?_)
      · refine own_iloadN X0 hx (hb hby own_d_method_3_code_27) rfl rfl ?_
        refine own_iconst X0 hx (3 : Int32) (hb hby own_d_method_3_code_28) (by decide) rfl ?_
        refine own_icmp_ne X0 hx (hb hby own_d_method_3_code_29) (by decide) rfl rfl (fun hc29_4 => ?_) (fun hc29_4 => ?_)
        · refine own_iloadN X0 hx (hb hby own_d_method_3_code_35) rfl rfl ?_
          refine own_iconst X0 hx (4 : Int32) (hb hby own_d_method_3_code_36) (by decide) rfl ?_
          refine own_icmp_ne X0 hx (hb hby own_d_method_3_code_37) (by decide) rfl rfl (fun hc37_5 => ?_) (fun hc37_5 => ?_)
          · refine own_iloadN X0 hx (hb hby own_d_method_3_code_43) rfl rfl ?_
            refine own_iconst X0 hx (5 : Int32) (hb hby own_d_method_3_code_44) (by decide) rfl ?_
            refine own_icmp_ne X0 hx (hb hby own_d_method_3_code_45) (by decide) rfl rfl (fun hc45_6 => ?_) (fun hc45_6 => ?_)
            · refine own_iloadN X0 hx (hb hby own_d_method_3_code_51) rfl rfl ?_
              refine own_bipush X0 hx (6 : Int32) (hb hby own_d_method_3_code_52) (by decide) rfl ?_
              refine own_icmp_ne X0 hx (hb hby own_d_method_3_code_54) (by decide) rfl rfl (fun hc54_7 => ?_) (fun hc54_7 => ?_)
              · refine own_iloadN X0 hx (hb hby own_d_method_3_code_60) rfl rfl ?_
                refine own_bipush X0 hx (7 : Int32) (hb hby own_d_method_3_code_61) (by decide) rfl ?_
                refine own_icmp_ne X0 hx (hb hby own_d_method_3_code_63) (by decide) rfl rfl (fun hc63_8 => ?_) (fun hc63_8 => ?_)
                · refine own_iloadN X0 hx (hb hby own_d_method_3_code_69) rfl rfl ?_
                  refine own_bipush X0 hx (8 : Int32) (hb hby own_d_method_3_code_70) (by decide) rfl ?_
                  refine own_icmp_ne X0 hx (hb hby own_d_method_3_code_72) (by decide) rfl rfl (fun hc72_9 => ?_) (fun hc72_9 => ?_)
                  · refine own_iloadN X0 hx (hb hby own_d_method_3_code_78) rfl rfl ?_
                    refine own_iconst X0 hx (4 : Int32) (hb hby own_d_method_3_code_79) (by decide) rfl ?_
                    refine own_iushr X0 hx (hb hby own_d_method_3_code_80) rfl ?_
                    refine own_ldcInt X0 hx hZ hown (hw _ (List.mem_of_getElem? (i := 53) rfl)) (hb hby own_d_method_3_code_81) rfl ?_
                    refine own_iand X0 hx (hb hby own_d_method_3_code_83) rfl ?_
                    refine own_iconst X0 hx (5 : Int32) (hb hby own_d_method_3_code_84) (by decide) rfl ?_
                    refine own_irem X0 hx (hb hby own_d_method_3_code_85) (by decide) rfl ?_
                    refine own_istore X0 hx #[.val (.int p1), .val (.long p2), .second, .val (.int (p1 &&& (15 : Int32))), .val (.int (((own_ushr p1 (4 : Int32)) &&& (2147483647 : Int32)) % (5 : Int32))), .unset, .unset, .unset, .unset] (hb hby own_d_method_3_code_86) rfl rfl ?_
                    refine own_lloadN X0 hx (hb hby own_d_method_3_code_88) rfl rfl ?_
                    refine own_ldcLong X0 hx hZ hown (hw _ (List.mem_of_getElem? (i := 54) rfl)) (hb hby own_d_method_3_code_89) rfl ?_
                    refine own_land X0 hx (hb hby own_d_method_3_code_92) rfl ?_
                    refine own_l2i X0 hx (hb hby own_d_method_3_code_93) rfl ?_
                    refine own_i2c X0 hx (hb hby own_d_method_3_code_94) rfl ?_
                    have hc10 := own_chL p2
                    generalize (((p2 &&& (255 : Int64)).toInt32).toUInt32.toUInt16.toUInt32.toInt32) = c10 at hc10 ⊢
                    refine own_istore X0 hx #[.val (.int p1), .val (.long p2), .second, .val (.int (p1 &&& (15 : Int32))), .val (.int (((own_ushr p1 (4 : Int32)) &&& (2147483647 : Int32)) % (5 : Int32))), .val (.int c10), .unset, .unset, .unset] (hb hby own_d_method_3_code_95) rfl rfl ?_
                    refine own_lloadN X0 hx (hb hby own_d_method_3_code_97) rfl rfl ?_
                    refine own_bipush X0 hx (8 : Int32) (hb hby own_d_method_3_code_98) (by decide) rfl ?_
                    refine own_lushr X0 hx (hb hby own_d_method_3_code_100) rfl ?_
                    refine own_ldcLong X0 hx hZ hown (hw _ (List.mem_of_getElem? (i := 54) rfl)) (hb hby own_d_method_3_code_101) rfl ?_
                    refine own_land X0 hx (hb hby own_d_method_3_code_104) rfl ?_
                    refine own_l2i X0 hx (hb hby own_d_method_3_code_105) rfl ?_
                    refine own_i2c X0 hx (hb hby own_d_method_3_code_106) rfl ?_
                    have hc11 := own_chL (own_ushrL p2 (8 : Int32))
                    generalize ((((own_ushrL p2 (8 : Int32)) &&& (255 : Int64)).toInt32).toUInt32.toUInt16.toUInt32.toInt32) = c11 at hc11 ⊢
                    refine own_istore X0 hx #[.val (.int p1), .val (.long p2), .second, .val (.int (p1 &&& (15 : Int32))), .val (.int (((own_ushr p1 (4 : Int32)) &&& (2147483647 : Int32)) % (5 : Int32))), .val (.int c10), .val (.int c11), .unset, .unset] (hb hby own_d_method_3_code_107) rfl rfl ?_
                    refine own_lloadN X0 hx (hb hby own_d_method_3_code_109) rfl rfl ?_
                    refine own_bipush X0 hx (16 : Int32) (hb hby own_d_method_3_code_110) (by decide) rfl ?_
                    refine own_lushr X0 hx (hb hby own_d_method_3_code_112) rfl ?_
                    refine own_ldcLong X0 hx hZ hown (hw _ (List.mem_of_getElem? (i := 54) rfl)) (hb hby own_d_method_3_code_113) rfl ?_
                    refine own_land X0 hx (hb hby own_d_method_3_code_116) rfl ?_
                    refine own_l2i X0 hx (hb hby own_d_method_3_code_117) rfl ?_
                    refine own_i2c X0 hx (hb hby own_d_method_3_code_118) rfl ?_
                    have hc12 := own_chL (own_ushrL p2 (16 : Int32))
                    generalize ((((own_ushrL p2 (16 : Int32)) &&& (255 : Int64)).toInt32).toUInt32.toUInt16.toUInt32.toInt32) = c12 at hc12 ⊢
                    refine own_istore X0 hx #[.val (.int p1), .val (.long p2), .second, .val (.int (p1 &&& (15 : Int32))), .val (.int (((own_ushr p1 (4 : Int32)) &&& (2147483647 : Int32)) % (5 : Int32))), .val (.int c10), .val (.int c11), .val (.int c12), .unset] (hb hby own_d_method_3_code_119) rfl rfl ?_
                    refine own_lloadN X0 hx (hb hby own_d_method_3_code_121) rfl rfl ?_
                    refine own_bipush X0 hx (24 : Int32) (hb hby own_d_method_3_code_122) (by decide) rfl ?_
                    refine own_lushr X0 hx (hb hby own_d_method_3_code_124) rfl ?_
                    refine own_ldcLong X0 hx hZ hown (hw _ (List.mem_of_getElem? (i := 54) rfl)) (hb hby own_d_method_3_code_125) rfl ?_
                    refine own_land X0 hx (hb hby own_d_method_3_code_128) rfl ?_
                    refine own_l2i X0 hx (hb hby own_d_method_3_code_129) rfl ?_
                    refine own_i2c X0 hx (hb hby own_d_method_3_code_130) rfl ?_
                    have hc13 := own_chL (own_ushrL p2 (24 : Int32))
                    generalize ((((own_ushrL p2 (24 : Int32)) &&& (255 : Int64)).toInt32).toUInt32.toUInt16.toUInt32.toInt32) = c13 at hc13 ⊢
                    refine own_istore X0 hx #[.val (.int p1), .val (.long p2), .second, .val (.int (p1 &&& (15 : Int32))), .val (.int (((own_ushr p1 (4 : Int32)) &&& (2147483647 : Int32)) % (5 : Int32))), .val (.int c10), .val (.int c11), .val (.int c12), .val (.int c13)] (hb hby own_d_method_3_code_131) rfl rfl ?_
                    refine own_iload X0 hx (hb hby own_d_method_3_code_133) rfl rfl ?_
                    refine own_if_ne X0 hx (hb hby own_d_method_3_code_135) (by decide) rfl rfl (fun hc135_14 => ?_) (fun hc135_14 => ?_)
                    · refine own_iload X0 hx (hb hby own_d_method_3_code_149) rfl rfl ?_
                      refine own_iconst X0 hx (1 : Int32) (hb hby own_d_method_3_code_151) (by decide) rfl ?_
                      refine own_icmp_ne X0 hx (hb hby own_d_method_3_code_152) (by decide) rfl rfl (fun hc152_15 => ?_) (fun hc152_15 => ?_)
                      · refine own_iload X0 hx (hb hby own_d_method_3_code_171) rfl rfl ?_
                        refine own_iconst X0 hx (2 : Int32) (hb hby own_d_method_3_code_173) (by decide) rfl ?_
                        refine own_icmp_ne X0 hx (hb hby own_d_method_3_code_174) (by decide) rfl rfl (fun hc174_16 => ?_) (fun hc174_16 => ?_)
                        · refine own_iload X0 hx (hb hby own_d_method_3_code_198) rfl rfl ?_
                          refine own_iconst X0 hx (3 : Int32) (hb hby own_d_method_3_code_200) (by decide) rfl ?_
                          refine own_icmp_ne X0 hx (hb hby own_d_method_3_code_201) (by decide) rfl rfl (fun hc201_17 => ?_) (fun hc201_17 => ?_)
                          · refine own_new X0 hx hZ hown (hw _ (List.mem_of_getElem? (i := 55) rfl)) (hw _ (List.mem_of_getElem? (i := 7) rfl)) (hw _ (List.mem_of_getElem? (i := 6) rfl)) e0 (hb hby own_d_method_3_code_230) (by decide) (by decide) rfl ?_
                            intro T18 h18 b18 X18 e18 g18 E18 A18 D18
                            have g_b18 : n0 ≤ b18 := Nat.le_trans (own_oz O0) (Nat.le_of_eq g18.symm)
                            have sz_b18 : h0.size ≤ b18 := Nat.le_trans K0.1 (Nat.le_of_eq g18.symm)
                            have HH19 := HH0.ext E18
                            have K20 := K0.ext E18
                            have Y_b18 := own_sfN g18 E18 HH0
                            have Fb18_value : Fld Z h18 b18 "java/lang/String" "value" "[B" .null := D18 (Or.inr (hw _ (List.mem_of_getElem? (i := 9) rfl))) (ty := (.array .byte)) (by decide)
                            have Fb18_coder : Fld Z h18 b18 "java/lang/String" "coder" "B" (.int (0 : Int32)) := D18 (Or.inr (hw _ (List.mem_of_getElem? (i := 10) rfl))) (ty := .byte) (by decide)
                            refine own_dup X18 hx (hb hby own_d_method_3_code_233) rfl rfl ?_
                            refine own_iconst X18 hx (4 : Int32) (hb hby own_d_method_3_code_234) (by decide) rfl ?_
                            refine own_newP X18 hx hZ (aty := .char) (hw _ (List.mem_of_getElem? (i := 56) rfl)) e18 (hb hby own_d_method_3_code_235) (by decide) 4 (by decide) (by decide) (by decide) (by decide) rfl ?_
                            intro T21 h21 b21 k21 X21 e21 g21 E21 V21q
                            have f22 := (O0.ext E18)
                            have g_b21 : n0 ≤ b21 := Nat.le_trans (own_oz f22) (Nat.le_of_eq g21.symm)
                            have sz_b21 : h0.size ≤ b21 := Nat.le_trans K20.1 (Nat.le_of_eq g21.symm)
                            have HH23 := HH19.ext E21
                            have K24 := K20.ext E21
                            have V21 : Arv Z h21 b21 k21 .char (4 : Int32) [(.int (0 : Int32)), (.int (0 : Int32)), (.int (0 : Int32)), (.int (0 : Int32))] (.int (0 : Int32)) := Arv.pad V21q (pad_rep [] (.int (0 : Int32)) 4)
                            refine own_dup X21 hx (hb hby own_d_method_3_code_237) rfl rfl ?_
                            refine own_iconst X21 hx (0 : Int32) (hb hby own_d_method_3_code_238) (by decide) rfl ?_
                            refine own_iload X21 hx (hb hby own_d_method_3_code_239) rfl rfl ?_
                            refine own_stC X21 hx hZ e21 V21 ⟨by decide, by decide⟩ 0 rfl (Nat.le_of_ble_eq_true rfl) (own_narC hc10) N0 g_b21 (hb hby own_d_method_3_code_241) rfl ?_
                            intro T25 h25 X25 e25 W25 N25 V25
                            have HH26 := HH23.wr W25 (Safe.arv hZ.alike V21 (by decide))
                            have K27 := K24.wr W25 (Or.inr sz_b21)
                            refine own_dup X25 hx (hb hby own_d_method_3_code_242) rfl rfl ?_
                            refine own_iconst X25 hx (1 : Int32) (hb hby own_d_method_3_code_243) (by decide) rfl ?_
                            refine own_iload X25 hx (hb hby own_d_method_3_code_244) rfl rfl ?_
                            refine own_stC X25 hx hZ e25 V25 ⟨by decide, by decide⟩ 1 rfl (Nat.le_of_ble_eq_true rfl) (own_narC hc11) N25 g_b21 (hb hby own_d_method_3_code_246) rfl ?_
                            intro T28 h28 X28 e28 W28 N28 V28
                            have HH29 := HH26.wr W28 (Safe.arv hZ.alike V25 (by decide))
                            have K30 := K27.wr W28 (Or.inr sz_b21)
                            refine own_dup X28 hx (hb hby own_d_method_3_code_247) rfl rfl ?_
                            refine own_iconst X28 hx (2 : Int32) (hb hby own_d_method_3_code_248) (by decide) rfl ?_
                            refine own_iload X28 hx (hb hby own_d_method_3_code_249) rfl rfl ?_
                            refine own_stC X28 hx hZ e28 V28 ⟨by decide, by decide⟩ 2 rfl (Nat.le_of_ble_eq_true rfl) (own_narC hc12) N28 g_b21 (hb hby own_d_method_3_code_251) rfl ?_
                            intro T31 h31 X31 e31 W31 N31 V31
                            have HH32 := HH29.wr W31 (Safe.arv hZ.alike V28 (by decide))
                            have K33 := K30.wr W31 (Or.inr sz_b21)
                            refine own_dup X31 hx (hb hby own_d_method_3_code_252) rfl rfl ?_
                            refine own_iconst X31 hx (3 : Int32) (hb hby own_d_method_3_code_253) (by decide) rfl ?_
                            refine own_iload X31 hx (hb hby own_d_method_3_code_254) rfl rfl ?_
                            refine own_stC X31 hx hZ e31 V31 ⟨by decide, by decide⟩ 3 rfl (Nat.le_of_ble_eq_true rfl) (own_narC hc13) N31 g_b21 (hb hby own_d_method_3_code_256) rfl ?_
                            intro T34 h34 X34 e34 W34 N34 V34
                            have HH35 := HH32.wr W34 (Safe.arv hZ.alike V31 (by decide))
                            have K36 := K33.wr W34 (Or.inr sz_b21)
                            have hp_b18 : ∀ c ∈ ([c10, c11, c12, c13] : List Int32), ¬ c < 0 ∧ ¬ (255 : Int32) < c := (own_c2 hc10 (own_c2 hc11 (own_c2 hc12 (own_c2 hc13 own_c0))))
                            have f37 := (((((A18.ext E21).wr W25).wr W28).wr W31).wr W34)
                            have f38 := (((((Fb18_value.ext E21).other W25 (Or.inl (Nat.ne_of_lt (Nat.lt_of_lt_of_le A18.lt (Nat.le_of_eq g21.symm))))).other W28 (Or.inl (Nat.ne_of_lt (Nat.lt_of_lt_of_le A18.lt (Nat.le_of_eq g21.symm))))).other W31 (Or.inl (Nat.ne_of_lt (Nat.lt_of_lt_of_le A18.lt (Nat.le_of_eq g21.symm))))).other W34 (Or.inl (Nat.ne_of_lt (Nat.lt_of_lt_of_le A18.lt (Nat.le_of_eq g21.symm)))))
                            have f39 := (((((Fb18_coder.ext E21).other W25 (Or.inl (Nat.ne_of_lt (Nat.lt_of_lt_of_le A18.lt (Nat.le_of_eq g21.symm))))).other W28 (Or.inl (Nat.ne_of_lt (Nat.lt_of_lt_of_le A18.lt (Nat.le_of_eq g21.symm))))).other W31 (Or.inl (Nat.ne_of_lt (Nat.lt_of_lt_of_le A18.lt (Nat.le_of_eq g21.symm))))).other W34 (Or.inl (Nat.ne_of_lt (Nat.lt_of_lt_of_le A18.lt (Nat.le_of_eq g21.symm)))))
                            have f40 := (((((f22.ext E21).wr W25 g_b21).wr W28 g_b21).wr W31 g_b21).wr W34 g_b21)
                            have f41 := (own_sfW (own_sfW (own_sfW (own_sfW (own_sfE Y_b18 E21 HH19) W25 (Safe.arv hZ.alike V21 (by decide)) HH23) W28 (Safe.arv hZ.alike V25 (by decide)) HH26) W31 (Safe.arv hZ.alike V28 (by decide)) HH29) W34 (Safe.arv hZ.alike V31 (by decide)) HH32)
                            refine own_specialB X34 hx hZ (y := (⟨"java/lang/String", "<init>", "([C)V"⟩ : MethodName)) rfl hown (hw _ (List.mem_of_getElem? (i := 57) rfl)) (hw _ (List.mem_of_getElem? (i := 58) rfl)) (hw _ (List.mem_of_getElem? (i := 59) rfl)) (by decide) e34 (W := 1) (ce := 1) (sl := 4) (by decide) (by decide) [(.ref b21)] [(.ref b18)] (by rw [hml]; rfl) (a := b18) (StrChars.Road.QV Z b18 (4 : Int32) (([c10, c11, c12, c13] : List Int32).map (fun c => c.toInt8.toInt32)) h34 n0) (StrChars.Road.backV (W := 1) hZ (own_hws hw) (kI := 4) (hw _ (List.mem_of_getElem? (i := 7) rfl)) (cs := ([c10, c11, c12, c13] : List Int32)) (bs := (([c10, c11, c12, c13] : List Int32).map (fun c => c.toInt8.toInt32))) (n := 4) g_b18 (own_oz f40) f37 f38 f39 V34 (SC.ext f40.2) hzc rfl rfl (by decide) (by decide) hp_b18 rfl (by decide) (by decide)) own_pd2 rfl rfl rfl (hb hby own_d_method_3_code_257) rfl ?_
                            intro v42 T42 L42 X42 hQ42
                            obtain ⟨rfl, Nq42, Kq42, Es42, Cs42, t42, kb42, gt42, st42, nt42, Vs42, Ks42⟩ := hQ42
                            have N42 := Fr.app N34 Nq42
                            have HH43 := HH35.keep Kq42 (sfS f41 sf0)
                            have K44 := K36.trans Kq42 (allS (Or.inr sz_b18) all0)
                            have co42 : StrChars.Road.CodA ([c10, c11, c12, c13] : List Int32) 0 (4 : Int32) (((([c10, c11, c12, c13] : List Int32).map (fun c => c.toInt8.toInt32))).map Value.int) := StrChars.Road.codOf (n := 4) rfl (fun c hc => (hp_b18 c hc).2)
                            have hb42 := own_up hp_b18
                            show own_Ends p e below _ (T42.setTop (mkF m 260 #[.val (.int p1), .val (.long p2), .second, .val (.int (p1 &&& (15 : Int32))), .val (.int (((own_ushr p1 (4 : Int32)) &&& (2147483647 : Int32)) % (5 : Int32))), .val (.int c10), .val (.int c11), .val (.int c12), .val (.int c13)] [(.ref b18)]))
                            exact own_retAH X42 hx hZ rfl HH43 hEL hlocks hret rfl rfl (hb hby own_d_method_3_code_260) (by decide) (by decide) ⟨_, _, rfl, N42, by exact ⟨K44, Or.inr ⟨_, ([c10, c11, c12, c13] : List Int32), rfl, ⟨_, _, _, _, _, Es42, Vs42, Cs42, Ks42, co42, hb42, (Nat.le_of_ble_eq_true rfl)⟩, rfl⟩⟩⟩
                          · refine own_new X0 hx hZ hown (hw _ (List.mem_of_getElem? (i := 55) rfl)) (hw _ (List.mem_of_getElem? (i := 7) rfl)) (hw _ (List.mem_of_getElem? (i := 6) rfl)) e0 (hb hby own_d_method_3_code_204) (by decide) (by decide) rfl ?_
                            intro T45 h45 b45 X45 e45 g45 E45 A45 D45
                            have g_b45 : n0 ≤ b45 := Nat.le_trans (own_oz O0) (Nat.le_of_eq g45.symm)
                            have sz_b45 : h0.size ≤ b45 := Nat.le_trans K0.1 (Nat.le_of_eq g45.symm)
                            have HH46 := HH0.ext E45
                            have K47 := K0.ext E45
                            have Y_b45 := own_sfN g45 E45 HH0
                            have Fb45_value : Fld Z h45 b45 "java/lang/String" "value" "[B" .null := D45 (Or.inr (hw _ (List.mem_of_getElem? (i := 9) rfl))) (ty := (.array .byte)) (by decide)
                            have Fb45_coder : Fld Z h45 b45 "java/lang/String" "coder" "B" (.int (0 : Int32)) := D45 (Or.inr (hw _ (List.mem_of_getElem? (i := 10) rfl))) (ty := .byte) (by decide)
                            refine own_dup X45 hx (hb hby own_d_method_3_code_207) rfl rfl ?_
                            refine own_iconst X45 hx (3 : Int32) (hb hby own_d_method_3_code_208) (by decide) rfl ?_
                            refine own_newP X45 hx hZ (aty := .char) (hw _ (List.mem_of_getElem? (i := 56) rfl)) e45 (hb hby own_d_method_3_code_209) (by decide) 3 (by decide) (by decide) (by decide) (by decide) rfl ?_
                            intro T48 h48 b48 k48 X48 e48 g48 E48 V48q
                            have f49 := (O0.ext E45)
                            have g_b48 : n0 ≤ b48 := Nat.le_trans (own_oz f49) (Nat.le_of_eq g48.symm)
                            have sz_b48 : h0.size ≤ b48 := Nat.le_trans K47.1 (Nat.le_of_eq g48.symm)
                            have HH50 := HH46.ext E48
                            have K51 := K47.ext E48
                            have V48 : Arv Z h48 b48 k48 .char (3 : Int32) [(.int (0 : Int32)), (.int (0 : Int32)), (.int (0 : Int32))] (.int (0 : Int32)) := Arv.pad V48q (pad_rep [] (.int (0 : Int32)) 3)
                            refine own_dup X48 hx (hb hby own_d_method_3_code_211) rfl rfl ?_
                            refine own_iconst X48 hx (0 : Int32) (hb hby own_d_method_3_code_212) (by decide) rfl ?_
                            refine own_iload X48 hx (hb hby own_d_method_3_code_213) rfl rfl ?_
                            refine own_stC X48 hx hZ e48 V48 ⟨by decide, by decide⟩ 0 rfl (Nat.le_of_ble_eq_true rfl) (own_narC hc10) N0 g_b48 (hb hby own_d_method_3_code_215) rfl ?_
                            intro T52 h52 X52 e52 W52 N52 V52
                            have HH53 := HH50.wr W52 (Safe.arv hZ.alike V48 (by decide))
                            have K54 := K51.wr W52 (Or.inr sz_b48)
                            refine own_dup X52 hx (hb hby own_d_method_3_code_216) rfl rfl ?_
                            refine own_iconst X52 hx (1 : Int32) (hb hby own_d_method_3_code_217) (by decide) rfl ?_
                            refine own_iload X52 hx (hb hby own_d_method_3_code_218) rfl rfl ?_
                            refine own_stC X52 hx hZ e52 V52 ⟨by decide, by decide⟩ 1 rfl (Nat.le_of_ble_eq_true rfl) (own_narC hc11) N52 g_b48 (hb hby own_d_method_3_code_220) rfl ?_
                            intro T55 h55 X55 e55 W55 N55 V55
                            have HH56 := HH53.wr W55 (Safe.arv hZ.alike V52 (by decide))
                            have K57 := K54.wr W55 (Or.inr sz_b48)
                            refine own_dup X55 hx (hb hby own_d_method_3_code_221) rfl rfl ?_
                            refine own_iconst X55 hx (2 : Int32) (hb hby own_d_method_3_code_222) (by decide) rfl ?_
                            refine own_iload X55 hx (hb hby own_d_method_3_code_223) rfl rfl ?_
                            refine own_stC X55 hx hZ e55 V55 ⟨by decide, by decide⟩ 2 rfl (Nat.le_of_ble_eq_true rfl) (own_narC hc12) N55 g_b48 (hb hby own_d_method_3_code_225) rfl ?_
                            intro T58 h58 X58 e58 W58 N58 V58
                            have HH59 := HH56.wr W58 (Safe.arv hZ.alike V55 (by decide))
                            have K60 := K57.wr W58 (Or.inr sz_b48)
                            have hp_b45 : ∀ c ∈ ([c10, c11, c12] : List Int32), ¬ c < 0 ∧ ¬ (255 : Int32) < c := (own_c2 hc10 (own_c2 hc11 (own_c2 hc12 own_c0)))
                            have f61 := ((((A45.ext E48).wr W52).wr W55).wr W58)
                            have f62 := ((((Fb45_value.ext E48).other W52 (Or.inl (Nat.ne_of_lt (Nat.lt_of_lt_of_le A45.lt (Nat.le_of_eq g48.symm))))).other W55 (Or.inl (Nat.ne_of_lt (Nat.lt_of_lt_of_le A45.lt (Nat.le_of_eq g48.symm))))).other W58 (Or.inl (Nat.ne_of_lt (Nat.lt_of_lt_of_le A45.lt (Nat.le_of_eq g48.symm)))))
                            have f63 := ((((Fb45_coder.ext E48).other W52 (Or.inl (Nat.ne_of_lt (Nat.lt_of_lt_of_le A45.lt (Nat.le_of_eq g48.symm))))).other W55 (Or.inl (Nat.ne_of_lt (Nat.lt_of_lt_of_le A45.lt (Nat.le_of_eq g48.symm))))).other W58 (Or.inl (Nat.ne_of_lt (Nat.lt_of_lt_of_le A45.lt (Nat.le_of_eq g48.symm)))))
                            have f64 := ((((f49.ext E48).wr W52 g_b48).wr W55 g_b48).wr W58 g_b48)
                            have f65 := (own_sfW (own_sfW (own_sfW (own_sfE Y_b45 E48 HH46) W52 (Safe.arv hZ.alike V48 (by decide)) HH50) W55 (Safe.arv hZ.alike V52 (by decide)) HH53) W58 (Safe.arv hZ.alike V55 (by decide)) HH56)
                            refine own_specialB X58 hx hZ (y := (⟨"java/lang/String", "<init>", "([C)V"⟩ : MethodName)) rfl hown (hw _ (List.mem_of_getElem? (i := 57) rfl)) (hw _ (List.mem_of_getElem? (i := 58) rfl)) (hw _ (List.mem_of_getElem? (i := 59) rfl)) (by decide) e58 (W := 1) (ce := 1) (sl := 3) (by decide) (by decide) [(.ref b48)] [(.ref b45)] (by rw [hml]; rfl) (a := b45) (StrChars.Road.QV Z b45 (3 : Int32) (([c10, c11, c12] : List Int32).map (fun c => c.toInt8.toInt32)) h58 n0) (StrChars.Road.backV (W := 1) hZ (own_hws hw) (kI := 4) (hw _ (List.mem_of_getElem? (i := 7) rfl)) (cs := ([c10, c11, c12] : List Int32)) (bs := (([c10, c11, c12] : List Int32).map (fun c => c.toInt8.toInt32))) (n := 3) g_b45 (own_oz f64) f61 f62 f63 V58 (SC.ext f64.2) hzc rfl rfl (by decide) (by decide) hp_b45 rfl (by decide) (by decide)) own_pd2 rfl rfl rfl (hb hby own_d_method_3_code_226) rfl ?_
                            intro v66 T66 L66 X66 hQ66
                            obtain ⟨rfl, Nq66, Kq66, Es66, Cs66, t66, kb66, gt66, st66, nt66, Vs66, Ks66⟩ := hQ66
                            have N66 := Fr.app N58 Nq66
                            have HH67 := HH59.keep Kq66 (sfS f65 sf0)
                            have K68 := K60.trans Kq66 (allS (Or.inr sz_b45) all0)
                            have co66 : StrChars.Road.CodA ([c10, c11, c12] : List Int32) 0 (3 : Int32) (((([c10, c11, c12] : List Int32).map (fun c => c.toInt8.toInt32))).map Value.int) := StrChars.Road.codOf (n := 3) rfl (fun c hc => (hp_b45 c hc).2)
                            have hb66 := own_up hp_b45
                            show own_Ends p e below _ (T66.setTop (mkF m 229 #[.val (.int p1), .val (.long p2), .second, .val (.int (p1 &&& (15 : Int32))), .val (.int (((own_ushr p1 (4 : Int32)) &&& (2147483647 : Int32)) % (5 : Int32))), .val (.int c10), .val (.int c11), .val (.int c12), .val (.int c13)] [(.ref b45)]))
                            exact own_retAH X66 hx hZ rfl HH67 hEL hlocks hret rfl rfl (hb hby own_d_method_3_code_229) (by decide) (by decide) ⟨_, _, rfl, N66, by exact ⟨K68, Or.inr ⟨_, ([c10, c11, c12] : List Int32), rfl, ⟨_, _, _, _, _, Es66, Vs66, Cs66, Ks66, co66, hb66, (Nat.le_of_ble_eq_true rfl)⟩, rfl⟩⟩⟩
                        · refine own_new X0 hx hZ hown (hw _ (List.mem_of_getElem? (i := 55) rfl)) (hw _ (List.mem_of_getElem? (i := 7) rfl)) (hw _ (List.mem_of_getElem? (i := 6) rfl)) e0 (hb hby own_d_method_3_code_177) (by decide) (by decide) rfl ?_
                          intro T69 h69 b69 X69 e69 g69 E69 A69 D69
                          have g_b69 : n0 ≤ b69 := Nat.le_trans (own_oz O0) (Nat.le_of_eq g69.symm)
                          have sz_b69 : h0.size ≤ b69 := Nat.le_trans K0.1 (Nat.le_of_eq g69.symm)
                          have HH70 := HH0.ext E69
                          have K71 := K0.ext E69
                          have Y_b69 := own_sfN g69 E69 HH0
                          have Fb69_value : Fld Z h69 b69 "java/lang/String" "value" "[B" .null := D69 (Or.inr (hw _ (List.mem_of_getElem? (i := 9) rfl))) (ty := (.array .byte)) (by decide)
                          have Fb69_coder : Fld Z h69 b69 "java/lang/String" "coder" "B" (.int (0 : Int32)) := D69 (Or.inr (hw _ (List.mem_of_getElem? (i := 10) rfl))) (ty := .byte) (by decide)
                          refine own_dup X69 hx (hb hby own_d_method_3_code_180) rfl rfl ?_
                          refine own_iconst X69 hx (2 : Int32) (hb hby own_d_method_3_code_181) (by decide) rfl ?_
                          refine own_newP X69 hx hZ (aty := .char) (hw _ (List.mem_of_getElem? (i := 56) rfl)) e69 (hb hby own_d_method_3_code_182) (by decide) 2 (by decide) (by decide) (by decide) (by decide) rfl ?_
                          intro T72 h72 b72 k72 X72 e72 g72 E72 V72q
                          have f73 := (O0.ext E69)
                          have g_b72 : n0 ≤ b72 := Nat.le_trans (own_oz f73) (Nat.le_of_eq g72.symm)
                          have sz_b72 : h0.size ≤ b72 := Nat.le_trans K71.1 (Nat.le_of_eq g72.symm)
                          have HH74 := HH70.ext E72
                          have K75 := K71.ext E72
                          have V72 : Arv Z h72 b72 k72 .char (2 : Int32) [(.int (0 : Int32)), (.int (0 : Int32))] (.int (0 : Int32)) := Arv.pad V72q (pad_rep [] (.int (0 : Int32)) 2)
                          refine own_dup X72 hx (hb hby own_d_method_3_code_184) rfl rfl ?_
                          refine own_iconst X72 hx (0 : Int32) (hb hby own_d_method_3_code_185) (by decide) rfl ?_
                          refine own_iload X72 hx (hb hby own_d_method_3_code_186) rfl rfl ?_
                          refine own_stC X72 hx hZ e72 V72 ⟨by decide, by decide⟩ 0 rfl (Nat.le_of_ble_eq_true rfl) (own_narC hc10) N0 g_b72 (hb hby own_d_method_3_code_188) rfl ?_
                          intro T76 h76 X76 e76 W76 N76 V76
                          have HH77 := HH74.wr W76 (Safe.arv hZ.alike V72 (by decide))
                          have K78 := K75.wr W76 (Or.inr sz_b72)
                          refine own_dup X76 hx (hb hby own_d_method_3_code_189) rfl rfl ?_
                          refine own_iconst X76 hx (1 : Int32) (hb hby own_d_method_3_code_190) (by decide) rfl ?_
                          refine own_iload X76 hx (hb hby own_d_method_3_code_191) rfl rfl ?_
                          refine own_stC X76 hx hZ e76 V76 ⟨by decide, by decide⟩ 1 rfl (Nat.le_of_ble_eq_true rfl) (own_narC hc11) N76 g_b72 (hb hby own_d_method_3_code_193) rfl ?_
                          intro T79 h79 X79 e79 W79 N79 V79
                          have HH80 := HH77.wr W79 (Safe.arv hZ.alike V76 (by decide))
                          have K81 := K78.wr W79 (Or.inr sz_b72)
                          have hp_b69 : ∀ c ∈ ([c10, c11] : List Int32), ¬ c < 0 ∧ ¬ (255 : Int32) < c := (own_c2 hc10 (own_c2 hc11 own_c0))
                          have f82 := (((A69.ext E72).wr W76).wr W79)
                          have f83 := (((Fb69_value.ext E72).other W76 (Or.inl (Nat.ne_of_lt (Nat.lt_of_lt_of_le A69.lt (Nat.le_of_eq g72.symm))))).other W79 (Or.inl (Nat.ne_of_lt (Nat.lt_of_lt_of_le A69.lt (Nat.le_of_eq g72.symm)))))
                          have f84 := (((Fb69_coder.ext E72).other W76 (Or.inl (Nat.ne_of_lt (Nat.lt_of_lt_of_le A69.lt (Nat.le_of_eq g72.symm))))).other W79 (Or.inl (Nat.ne_of_lt (Nat.lt_of_lt_of_le A69.lt (Nat.le_of_eq g72.symm)))))
                          have f85 := (((f73.ext E72).wr W76 g_b72).wr W79 g_b72)
                          have f86 := (own_sfW (own_sfW (own_sfE Y_b69 E72 HH70) W76 (Safe.arv hZ.alike V72 (by decide)) HH74) W79 (Safe.arv hZ.alike V76 (by decide)) HH77)
                          refine own_specialB X79 hx hZ (y := (⟨"java/lang/String", "<init>", "([C)V"⟩ : MethodName)) rfl hown (hw _ (List.mem_of_getElem? (i := 57) rfl)) (hw _ (List.mem_of_getElem? (i := 58) rfl)) (hw _ (List.mem_of_getElem? (i := 59) rfl)) (by decide) e79 (W := 1) (ce := 1) (sl := 2) (by decide) (by decide) [(.ref b72)] [(.ref b69)] (by rw [hml]; rfl) (a := b69) (StrChars.Road.QV Z b69 (2 : Int32) (([c10, c11] : List Int32).map (fun c => c.toInt8.toInt32)) h79 n0) (StrChars.Road.backV (W := 1) hZ (own_hws hw) (kI := 4) (hw _ (List.mem_of_getElem? (i := 7) rfl)) (cs := ([c10, c11] : List Int32)) (bs := (([c10, c11] : List Int32).map (fun c => c.toInt8.toInt32))) (n := 2) g_b69 (own_oz f85) f82 f83 f84 V79 (SC.ext f85.2) hzc rfl rfl (by decide) (by decide) hp_b69 rfl (by decide) (by decide)) own_pd2 rfl rfl rfl (hb hby own_d_method_3_code_194) rfl ?_
                          intro v87 T87 L87 X87 hQ87
                          obtain ⟨rfl, Nq87, Kq87, Es87, Cs87, t87, kb87, gt87, st87, nt87, Vs87, Ks87⟩ := hQ87
                          have N87 := Fr.app N79 Nq87
                          have HH88 := HH80.keep Kq87 (sfS f86 sf0)
                          have K89 := K81.trans Kq87 (allS (Or.inr sz_b69) all0)
                          have co87 : StrChars.Road.CodA ([c10, c11] : List Int32) 0 (2 : Int32) (((([c10, c11] : List Int32).map (fun c => c.toInt8.toInt32))).map Value.int) := StrChars.Road.codOf (n := 2) rfl (fun c hc => (hp_b69 c hc).2)
                          have hb87 := own_up hp_b69
                          show own_Ends p e below _ (T87.setTop (mkF m 197 #[.val (.int p1), .val (.long p2), .second, .val (.int (p1 &&& (15 : Int32))), .val (.int (((own_ushr p1 (4 : Int32)) &&& (2147483647 : Int32)) % (5 : Int32))), .val (.int c10), .val (.int c11), .val (.int c12), .val (.int c13)] [(.ref b69)]))
                          exact own_retAH X87 hx hZ rfl HH88 hEL hlocks hret rfl rfl (hb hby own_d_method_3_code_197) (by decide) (by decide) ⟨_, _, rfl, N87, by exact ⟨K89, Or.inr ⟨_, ([c10, c11] : List Int32), rfl, ⟨_, _, _, _, _, Es87, Vs87, Cs87, Ks87, co87, hb87, (Nat.le_of_ble_eq_true rfl)⟩, rfl⟩⟩⟩
                      · refine own_new X0 hx hZ hown (hw _ (List.mem_of_getElem? (i := 55) rfl)) (hw _ (List.mem_of_getElem? (i := 7) rfl)) (hw _ (List.mem_of_getElem? (i := 6) rfl)) e0 (hb hby own_d_method_3_code_155) (by decide) (by decide) rfl ?_
                        intro T90 h90 b90 X90 e90 g90 E90 A90 D90
                        have g_b90 : n0 ≤ b90 := Nat.le_trans (own_oz O0) (Nat.le_of_eq g90.symm)
                        have sz_b90 : h0.size ≤ b90 := Nat.le_trans K0.1 (Nat.le_of_eq g90.symm)
                        have HH91 := HH0.ext E90
                        have K92 := K0.ext E90
                        have Y_b90 := own_sfN g90 E90 HH0
                        have Fb90_value : Fld Z h90 b90 "java/lang/String" "value" "[B" .null := D90 (Or.inr (hw _ (List.mem_of_getElem? (i := 9) rfl))) (ty := (.array .byte)) (by decide)
                        have Fb90_coder : Fld Z h90 b90 "java/lang/String" "coder" "B" (.int (0 : Int32)) := D90 (Or.inr (hw _ (List.mem_of_getElem? (i := 10) rfl))) (ty := .byte) (by decide)
                        refine own_dup X90 hx (hb hby own_d_method_3_code_158) rfl rfl ?_
                        refine own_iconst X90 hx (1 : Int32) (hb hby own_d_method_3_code_159) (by decide) rfl ?_
                        refine own_newP X90 hx hZ (aty := .char) (hw _ (List.mem_of_getElem? (i := 56) rfl)) e90 (hb hby own_d_method_3_code_160) (by decide) 1 (by decide) (by decide) (by decide) (by decide) rfl ?_
                        intro T93 h93 b93 k93 X93 e93 g93 E93 V93q
                        have f94 := (O0.ext E90)
                        have g_b93 : n0 ≤ b93 := Nat.le_trans (own_oz f94) (Nat.le_of_eq g93.symm)
                        have sz_b93 : h0.size ≤ b93 := Nat.le_trans K92.1 (Nat.le_of_eq g93.symm)
                        have HH95 := HH91.ext E93
                        have K96 := K92.ext E93
                        have V93 : Arv Z h93 b93 k93 .char (1 : Int32) [(.int (0 : Int32))] (.int (0 : Int32)) := Arv.pad V93q (pad_rep [] (.int (0 : Int32)) 1)
                        refine own_dup X93 hx (hb hby own_d_method_3_code_162) rfl rfl ?_
                        refine own_iconst X93 hx (0 : Int32) (hb hby own_d_method_3_code_163) (by decide) rfl ?_
                        refine own_iload X93 hx (hb hby own_d_method_3_code_164) rfl rfl ?_
                        refine own_stC X93 hx hZ e93 V93 ⟨by decide, by decide⟩ 0 rfl (Nat.le_of_ble_eq_true rfl) (own_narC hc10) N0 g_b93 (hb hby own_d_method_3_code_166) rfl ?_
                        intro T97 h97 X97 e97 W97 N97 V97
                        have HH98 := HH95.wr W97 (Safe.arv hZ.alike V93 (by decide))
                        have K99 := K96.wr W97 (Or.inr sz_b93)
                        have hp_b90 : ∀ c ∈ ([c10] : List Int32), ¬ c < 0 ∧ ¬ (255 : Int32) < c := (own_c2 hc10 own_c0)
                        have f100 := ((A90.ext E93).wr W97)
                        have f101 := ((Fb90_value.ext E93).other W97 (Or.inl (Nat.ne_of_lt (Nat.lt_of_lt_of_le A90.lt (Nat.le_of_eq g93.symm)))))
                        have f102 := ((Fb90_coder.ext E93).other W97 (Or.inl (Nat.ne_of_lt (Nat.lt_of_lt_of_le A90.lt (Nat.le_of_eq g93.symm)))))
                        have f103 := ((f94.ext E93).wr W97 g_b93)
                        have f104 := (own_sfW (own_sfE Y_b90 E93 HH91) W97 (Safe.arv hZ.alike V93 (by decide)) HH95)
                        refine own_specialB X97 hx hZ (y := (⟨"java/lang/String", "<init>", "([C)V"⟩ : MethodName)) rfl hown (hw _ (List.mem_of_getElem? (i := 57) rfl)) (hw _ (List.mem_of_getElem? (i := 58) rfl)) (hw _ (List.mem_of_getElem? (i := 59) rfl)) (by decide) e97 (W := 1) (ce := 1) (sl := 1) (by decide) (by decide) [(.ref b93)] [(.ref b90)] (by rw [hml]; rfl) (a := b90) (StrChars.Road.QV Z b90 (1 : Int32) (([c10] : List Int32).map (fun c => c.toInt8.toInt32)) h97 n0) (StrChars.Road.backV (W := 1) hZ (own_hws hw) (kI := 4) (hw _ (List.mem_of_getElem? (i := 7) rfl)) (cs := ([c10] : List Int32)) (bs := (([c10] : List Int32).map (fun c => c.toInt8.toInt32))) (n := 1) g_b90 (own_oz f103) f100 f101 f102 V97 (SC.ext f103.2) hzc rfl rfl (by decide) (by decide) hp_b90 rfl (by decide) (by decide)) own_pd2 rfl rfl rfl (hb hby own_d_method_3_code_167) rfl ?_
                        intro v105 T105 L105 X105 hQ105
                        obtain ⟨rfl, Nq105, Kq105, Es105, Cs105, t105, kb105, gt105, st105, nt105, Vs105, Ks105⟩ := hQ105
                        have N105 := Fr.app N97 Nq105
                        have HH106 := HH98.keep Kq105 (sfS f104 sf0)
                        have K107 := K99.trans Kq105 (allS (Or.inr sz_b90) all0)
                        have co105 : StrChars.Road.CodA ([c10] : List Int32) 0 (1 : Int32) (((([c10] : List Int32).map (fun c => c.toInt8.toInt32))).map Value.int) := StrChars.Road.codOf (n := 1) rfl (fun c hc => (hp_b90 c hc).2)
                        have hb105 := own_up hp_b90
                        show own_Ends p e below _ (T105.setTop (mkF m 170 #[.val (.int p1), .val (.long p2), .second, .val (.int (p1 &&& (15 : Int32))), .val (.int (((own_ushr p1 (4 : Int32)) &&& (2147483647 : Int32)) % (5 : Int32))), .val (.int c10), .val (.int c11), .val (.int c12), .val (.int c13)] [(.ref b90)]))
                        exact own_retAH X105 hx hZ rfl HH106 hEL hlocks hret rfl rfl (hb hby own_d_method_3_code_170) (by decide) (by decide) ⟨_, _, rfl, N105, by exact ⟨K107, Or.inr ⟨_, ([c10] : List Int32), rfl, ⟨_, _, _, _, _, Es105, Vs105, Cs105, Ks105, co105, hb105, (Nat.le_of_ble_eq_true rfl)⟩, rfl⟩⟩⟩
                    · refine own_new X0 hx hZ hown (hw _ (List.mem_of_getElem? (i := 55) rfl)) (hw _ (List.mem_of_getElem? (i := 7) rfl)) (hw _ (List.mem_of_getElem? (i := 6) rfl)) e0 (hb hby own_d_method_3_code_138) (by decide) (by decide) rfl ?_
                      intro T108 h108 b108 X108 e108 g108 E108 A108 D108
                      have g_b108 : n0 ≤ b108 := Nat.le_trans (own_oz O0) (Nat.le_of_eq g108.symm)
                      have sz_b108 : h0.size ≤ b108 := Nat.le_trans K0.1 (Nat.le_of_eq g108.symm)
                      have HH109 := HH0.ext E108
                      have K110 := K0.ext E108
                      have Y_b108 := own_sfN g108 E108 HH0
                      have Fb108_value : Fld Z h108 b108 "java/lang/String" "value" "[B" .null := D108 (Or.inr (hw _ (List.mem_of_getElem? (i := 9) rfl))) (ty := (.array .byte)) (by decide)
                      have Fb108_coder : Fld Z h108 b108 "java/lang/String" "coder" "B" (.int (0 : Int32)) := D108 (Or.inr (hw _ (List.mem_of_getElem? (i := 10) rfl))) (ty := .byte) (by decide)
                      refine own_dup X108 hx (hb hby own_d_method_3_code_141) rfl rfl ?_
                      refine own_iconst X108 hx (0 : Int32) (hb hby own_d_method_3_code_142) (by decide) rfl ?_
                      refine own_newP X108 hx hZ (aty := .char) (hw _ (List.mem_of_getElem? (i := 56) rfl)) e108 (hb hby own_d_method_3_code_143) (by decide) 0 (by decide) (by decide) (by decide) (by decide) rfl ?_
                      intro T111 h111 b111 k111 X111 e111 g111 E111 V111q
                      have f112 := (O0.ext E108)
                      have g_b111 : n0 ≤ b111 := Nat.le_trans (own_oz f112) (Nat.le_of_eq g111.symm)
                      have sz_b111 : h0.size ≤ b111 := Nat.le_trans K110.1 (Nat.le_of_eq g111.symm)
                      have HH113 := HH109.ext E111
                      have K114 := K110.ext E111
                      have V111 : Arv Z h111 b111 k111 .char (0 : Int32) [] (.int (0 : Int32)) := V111q
                      have f115 := (f112.ext E111)
                      have f116 := (A108.ext E111)
                      have f117 := (Fb108_value.ext E111)
                      have f118 := (Fb108_coder.ext E111)
                      refine own_specialH X111 hx hZ (y := (⟨"java/lang/String", "<init>", "([C)V"⟩ : MethodName)) rfl hown (hw _ (List.mem_of_getElem? (i := 57) rfl)) (hw _ (List.mem_of_getElem? (i := 58) rfl)) (hw _ (List.mem_of_getElem? (i := 6) rfl)) (hw _ (List.mem_of_getElem? (i := 59) rfl)) (by decide) HH113 hEL e111 (by decide) (W := 1) (by decide) (by decide) (by decide) [(.ref b111)] [(.ref b108)] (by rw [hml]; rfl) (a := b108) (own_s1 l Z a0 hw b108 b111 _ h111 n0 hEL f115 g_b108 f116 f117 f118 V111) own_pd2 rfl rfl rfl (hb hby own_d_method_3_code_145) rfl ?_
                      intro v119 T119 L119 X119 hQ119 hZ hown HH119 A119
                      obtain ⟨rfl, Nq119, Kq119, Ss119⟩ := hQ119
                      have N119 := Fr.app N0 Nq119
                      have K120 := K114.trans Kq119 (allS (Or.inr sz_b108) all0)
                      obtain ⟨t119, kb119, cd119, Nn119, vs119, Es119, Vs119, Cs119, Ks119, cod119, hbd119, hle119⟩ := Ss119
                      show own_Ends p e below _ (T119.setTop (mkF m 148 #[.val (.int p1), .val (.long p2), .second, .val (.int (p1 &&& (15 : Int32))), .val (.int (((own_ushr p1 (4 : Int32)) &&& (2147483647 : Int32)) % (5 : Int32))), .val (.int c10), .val (.int c11), .val (.int c12), .val (.int c13)] [(.ref b108)]))
                      exact own_retAH X119 hx hZ rfl HH119 hEL hlocks hret rfl rfl (hb hby own_d_method_3_code_148) (by decide) (by decide) ⟨_, _, rfl, N119, by exact ⟨K120, Or.inr ⟨_, ([] : List Int32), rfl, ⟨_, _, _, _, _, Es119, Vs119, Cs119, Ks119, cod119, hbd119, hle119⟩, rfl⟩⟩⟩
                  · refine own_ldcS X0 hx hZ hown (hw _ (List.mem_of_getElem? (i := 36) rfl)) hwS e0 HH0 hEL (List.mem_of_getElem? (i := 15) rfl) (vs := ((([117, 117, 105, 100] : List Int32).map StrChars.lo8).map Value.int)) (z := (4 : Int32)) (by decide +kernel) (by decide) (by decide) (hb hby own_d_method_3_code_75) 16 (by decide) (by decide) (by decide) (by decide) rfl ?_
                    intro ls121 T121 h121 lt121 k121 X121 e121 E121 hZ hown HH121 A121 Ex121 Fc121 Fv121 V121 ne121
                    have K122 := K0.ext E121
                    exact own_retAH X121 hx hZ e121 HH121 hEL hlocks hret rfl rfl (hb hby own_d_method_3_code_77) (by decide) (by decide) ⟨_, _, rfl, N0, by rw [e121]; exact ⟨K122, Or.inr ⟨_, ([117, 117, 105, 100] : List Int32), rfl, ⟨_, _, _, _, _, Ex121, Fv121, Fc121, V121, (StrChars.Road.codOf (cs := [117, 117, 105, 100]) (n := 4) rfl (by decide)), (by decide), (Nat.le_of_ble_eq_true rfl)⟩, rfl⟩⟩⟩
                · refine own_ldcS X0 hx hZ hown (hw _ (List.mem_of_getElem? (i := 35) rfl)) hwS e0 HH0 hEL (List.mem_of_getElem? (i := 14) rfl) (vs := ((([106, 115, 111, 110, 98] : List Int32).map StrChars.lo8).map Value.int)) (z := (5 : Int32)) (by decide +kernel) (by decide) (by decide) (hb hby own_d_method_3_code_66) 20 (by decide) (by decide) (by decide) (by decide) rfl ?_
                  intro ls123 T123 h123 lt123 k123 X123 e123 E123 hZ hown HH123 A123 Ex123 Fc123 Fv123 V123 ne123
                  have K124 := K0.ext E123
                  exact own_retAH X123 hx hZ e123 HH123 hEL hlocks hret rfl rfl (hb hby own_d_method_3_code_68) (by decide) (by decide) ⟨_, _, rfl, N0, by rw [e123]; exact ⟨K124, Or.inr ⟨_, ([106, 115, 111, 110, 98] : List Int32), rfl, ⟨_, _, _, _, _, Ex123, Fv123, Fc123, V123, (StrChars.Road.codOf (cs := [106, 115, 111, 110, 98]) (n := 5) rfl (by decide)), (by decide), (Nat.le_of_ble_eq_true rfl)⟩, rfl⟩⟩⟩
              · refine own_ldcS X0 hx hZ hown (hw _ (List.mem_of_getElem? (i := 34) rfl)) hwS e0 HH0 hEL (List.mem_of_getElem? (i := 13) rfl) (vs := ((([106, 115, 111, 110] : List Int32).map StrChars.lo8).map Value.int)) (z := (4 : Int32)) (by decide +kernel) (by decide) (by decide) (hb hby own_d_method_3_code_57) 16 (by decide) (by decide) (by decide) (by decide) rfl ?_
                intro ls125 T125 h125 lt125 k125 X125 e125 E125 hZ hown HH125 A125 Ex125 Fc125 Fv125 V125 ne125
                have K126 := K0.ext E125
                exact own_retAH X125 hx hZ e125 HH125 hEL hlocks hret rfl rfl (hb hby own_d_method_3_code_59) (by decide) (by decide) ⟨_, _, rfl, N0, by rw [e125]; exact ⟨K126, Or.inr ⟨_, ([106, 115, 111, 110] : List Int32), rfl, ⟨_, _, _, _, _, Ex125, Fv125, Fc125, V125, (StrChars.Road.codOf (cs := [106, 115, 111, 110]) (n := 4) rfl (by decide)), (by decide), (Nat.le_of_ble_eq_true rfl)⟩, rfl⟩⟩⟩
            · refine own_ldcS X0 hx hZ hown (hw _ (List.mem_of_getElem? (i := 33) rfl)) hwS e0 HH0 hEL (List.mem_of_getElem? (i := 12) rfl) (vs := ((([116, 105, 109, 101, 115, 116, 97, 109, 112, 116, 122] : List Int32).map StrChars.lo8).map Value.int)) (z := (11 : Int32)) (by decide +kernel) (by decide) (by decide) (hb hby own_d_method_3_code_48) 44 (by decide) (by decide) (by decide) (by decide) rfl ?_
              intro ls127 T127 h127 lt127 k127 X127 e127 E127 hZ hown HH127 A127 Ex127 Fc127 Fv127 V127 ne127
              have K128 := K0.ext E127
              exact own_retAH X127 hx hZ e127 HH127 hEL hlocks hret rfl rfl (hb hby own_d_method_3_code_50) (by decide) (by decide) ⟨_, _, rfl, N0, by rw [e127]; exact ⟨K128, Or.inr ⟨_, ([116, 105, 109, 101, 115, 116, 97, 109, 112, 116, 122] : List Int32), rfl, ⟨_, _, _, _, _, Ex127, Fv127, Fc127, V127, (StrChars.Road.codOf (cs := [116, 105, 109, 101, 115, 116, 97, 109, 112, 116, 122]) (n := 11) rfl (by decide)), (by decide), (Nat.le_of_ble_eq_true rfl)⟩, rfl⟩⟩⟩
          · refine own_ldcS X0 hx hZ hown (hw _ (List.mem_of_getElem? (i := 32) rfl)) hwS e0 HH0 hEL (List.mem_of_getElem? (i := 11) rfl) (vs := ((([116, 105, 109, 101, 116, 122] : List Int32).map StrChars.lo8).map Value.int)) (z := (6 : Int32)) (by decide +kernel) (by decide) (by decide) (hb hby own_d_method_3_code_40) 24 (by decide) (by decide) (by decide) (by decide) rfl ?_
            intro ls129 T129 h129 lt129 k129 X129 e129 E129 hZ hown HH129 A129 Ex129 Fc129 Fv129 V129 ne129
            have K130 := K0.ext E129
            exact own_retAH X129 hx hZ e129 HH129 hEL hlocks hret rfl rfl (hb hby own_d_method_3_code_42) (by decide) (by decide) ⟨_, _, rfl, N0, by rw [e129]; exact ⟨K130, Or.inr ⟨_, ([116, 105, 109, 101, 116, 122] : List Int32), rfl, ⟨_, _, _, _, _, Ex129, Fv129, Fc129, V129, (StrChars.Road.codOf (cs := [116, 105, 109, 101, 116, 122]) (n := 6) rfl (by decide)), (by decide), (Nat.le_of_ble_eq_true rfl)⟩, rfl⟩⟩⟩
        · refine own_ldcS X0 hx hZ hown (hw _ (List.mem_of_getElem? (i := 31) rfl)) hwS e0 HH0 hEL (List.mem_of_getElem? (i := 10) rfl) (vs := ((([98, 111, 111, 108] : List Int32).map StrChars.lo8).map Value.int)) (z := (4 : Int32)) (by decide +kernel) (by decide) (by decide) (hb hby own_d_method_3_code_32) 16 (by decide) (by decide) (by decide) (by decide) rfl ?_
          intro ls131 T131 h131 lt131 k131 X131 e131 E131 hZ hown HH131 A131 Ex131 Fc131 Fv131 V131 ne131
          have K132 := K0.ext E131
          exact own_retAH X131 hx hZ e131 HH131 hEL hlocks hret rfl rfl (hb hby own_d_method_3_code_34) (by decide) (by decide) ⟨_, _, rfl, N0, by rw [e131]; exact ⟨K132, Or.inr ⟨_, ([98, 111, 111, 108] : List Int32), rfl, ⟨_, _, _, _, _, Ex131, Fv131, Fc131, V131, (StrChars.Road.codOf (cs := [98, 111, 111, 108]) (n := 4) rfl (by decide)), (by decide), (Nat.le_of_ble_eq_true rfl)⟩, rfl⟩⟩⟩
      · refine own_ldcS X0 hx hZ hown (hw _ (List.mem_of_getElem? (i := 5) rfl)) hwS e0 HH0 hEL (List.mem_of_getElem? (i := 9) rfl) (vs := ((([109, 111, 110, 101, 121] : List Int32).map StrChars.lo8).map Value.int)) (z := (5 : Int32)) (by decide +kernel) (by decide) (by decide) (hb hby own_d_method_3_code_24) 20 (by decide) (by decide) (by decide) (by decide) rfl ?_
        intro ls133 T133 h133 lt133 k133 X133 e133 E133 hZ hown HH133 A133 Ex133 Fc133 Fv133 V133 ne133
        have K134 := K0.ext E133
        exact own_retAH X133 hx hZ e133 HH133 hEL hlocks hret rfl rfl (hb hby own_d_method_3_code_26) (by decide) (by decide) ⟨_, _, rfl, N0, by rw [e133]; exact ⟨K134, Or.inr ⟨_, ([109, 111, 110, 101, 121] : List Int32), rfl, ⟨_, _, _, _, _, Ex133, Fv133, Fc133, V133, (StrChars.Road.codOf (cs := [109, 111, 110, 101, 121]) (n := 5) rfl (by decide)), (by decide), (Nat.le_of_ble_eq_true rfl)⟩, rfl⟩⟩⟩
    · refine own_ldcS X0 hx hZ hown (hw _ (List.mem_of_getElem? (i := 16) rfl)) hwS e0 HH0 hEL (List.mem_of_getElem? (i := 8) rfl) (vs := ((([111, 105, 100] : List Int32).map StrChars.lo8).map Value.int)) (z := (3 : Int32)) (by decide +kernel) (by decide) (by decide) (hb hby own_d_method_3_code_16) 12 (by decide) (by decide) (by decide) (by decide) rfl ?_
      intro ls135 T135 h135 lt135 k135 X135 e135 E135 hZ hown HH135 A135 Ex135 Fc135 Fv135 V135 ne135
      have K136 := K0.ext E135
      exact own_retAH X135 hx hZ e135 HH135 hEL hlocks hret rfl rfl (hb hby own_d_method_3_code_18) (by decide) (by decide) ⟨_, _, rfl, N0, by rw [e135]; exact ⟨K136, Or.inr ⟨_, ([111, 105, 100] : List Int32), rfl, ⟨_, _, _, _, _, Ex135, Fv135, Fc135, V135, (StrChars.Road.codOf (cs := [111, 105, 100]) (n := 3) rfl (by decide)), (by decide), (Nat.le_of_ble_eq_true rfl)⟩, rfl⟩⟩⟩
  · refine own_aconst_null X0 hx (hb hby own_d_method_3_code_9) rfl ?_
    exact own_retAH X0 hx hZ e0 HH0 hEL hlocks hret rfl rfl (hb hby own_d_method_3_code_10) (by decide) (by decide) ⟨_, _, rfl, N0, by rw [e0]; exact ⟨K0, Or.inl ⟨rfl, rfl⟩⟩⟩
set_option maxRecDepth 65536 in
set_option maxHeartbeats 40000000 in
theorem own_expected (l : Launch) (Z : State) (a0 : Array Value) (hw : ∀ d ∈ tables_1, d.before a0 Z = true) (t1 zc : Int32) (en : Nat → Addr) (em : Addr) (nv : Value) (q : List Int32 → Int32) (h0 : Heap) (n0 : Nat) (hEL : EW Z a0 consts_1) (O0 : Old Z n0 h0) (SC : Sta Z Z.heap "java/lang/String" "COMPACT_STRINGS" "Z" (.int zc)) (hzc : ¬ zc = 0) (HS : ∀ q ∈ own_names, Sta Z Z.heap "com/example/kinfold/kinfold/ValueEncoding" q.1 "Lcom/example/kinfold/kinfold/ValueEncoding;" (.ref (en q.2))) (SE : Sta Z Z.heap "java/util/Optional" "EMPTY" "Ljava/util/Optional;" (.ref em)) (XE : Exa Z Z.heap em "java/util/Optional") (FE : Fld Z Z.heap em "java/util/Optional" "value" "Ljava/lang/Object;" .null) (SN : own_SN Z h0 nv q) :
    own_MetH l (⟨"com/example/kinfold/kinfold/ValueEncodingForTypePinLaw", "expected", "(ILjava/lang/String;)Lcom/example/kinfold/kinfold/ValueEncoding;"⟩ : MethodName) method_4_code 9 (some (.object "com/example/kinfold/kinfold/ValueEncoding")) ({ frames := 2, cells := 16, slots := 200, locals := 28 } : Room) Z consts_1 #[(.int t1), nv] h0 (fun v h L => v = some (own_exp en t1 q) ∧ Fr n0 L ∧ Keep h0 h []) := by
  refine own_metH (plainFor_of_name own_pn_com_example_kinfold_kinfold_ValueEncodingForTypePinLaw) ?_
  intro p e s m below meth c T0 hx hby hml hZ hown hnm hret hlocks X0 e0 hh0 HH0
  have hrn := SN.isref
  have ef : entryFrame m #[(.int t1), nv] 9 = mkF m 0 #[.val (.int t1), .val nv, .unset, .unset, .unset, .unset, .unset, .unset, .unset] [] := by cases nv <;> first | (simp [entryFrame, mkF, argsToLocals, Value.category]; done) | rfl | (cases hrn)
  refine own_entry ef ?_
  have N0 := Fr.nil n0
  have K0 := Keep.refl h0 []
  have hwS := own_hwS hw
  refine own_ldcS X0 hx hZ hown (hw _ (List.mem_of_getElem? (i := 16) rfl)) hwS e0 HH0 hEL (List.mem_of_getElem? (i := 8) rfl) (vs := ((([111, 105, 100] : List Int32).map StrChars.lo8).map Value.int)) (z := (3 : Int32)) (by decide +kernel) (by decide) (by decide) (hb hby own_d_method_4_code_0) 12 (by decide) (by decide) (by decide) (by decide) rfl ?_
  intro ls1 T1 h1 lt1 k1 X1 e1 E1 hZ hown HH1 A1 Ex1 Fc1 Fv1 V1 ne1
  have K2 := K0.ext E1
  refine own_aloadN X1 hx (hb hby own_d_method_4_code_2) rfl SN.isref rfl ?_
  have f3 := (SN.ext E1)
  have f4 := (O0.ext E1)
  refine own_virtualB X1 hx hZ (y := (⟨"java/lang/String", "equals", "(Ljava/lang/Object;)Z"⟩ : MethodName)) (z := (⟨"java/lang/String", "equals", "(Ljava/lang/Object;)Z"⟩ : MethodName)) hown (hw _ (List.mem_of_getElem? (i := 17) rfl)) (hw _ (List.mem_of_getElem? (i := 18) rfl)) (notFace_of_selects (args := #[]) (mvT hZ (hw _ (List.mem_of_getElem? (i := 20) rfl)))) (hw _ (List.mem_of_getElem? (i := 20) rfl)) (hw _ (List.mem_of_getElem? (i := 19) rfl)) (by decide) e1 (W := 0) (ce := 0) (sl := 0) (by decide) (by decide) [nv] [] (by rw [hml]; rfl) Ex1 (fun v h' L => v = some (.int (q ([111, 105, 100] : List Int32))) ∧ L = [] ∧ h' = h1) (own_eqSN (W := 0) hZ hw (cs := ([111, 105, 100] : List Int32)) ⟨_, _, _, _, _, Ex1, Fv1, Fc1, V1, (StrChars.Road.codOf (cs := [111, 105, 100]) (n := 3) rfl (by decide)), (by decide), (Nat.le_of_ble_eq_true rfl)⟩ f3 (SC.ext f4.2) hzc (by decide) (by decide)) own_pd3 rfl rfl rfl (hb hby own_d_method_4_code_3) rfl ?_
  intro v5 T5 L5 X5 hQ5
  obtain ⟨rfl, rfl, hh5⟩ := hQ5
  have N5 := Fr.app N0 (Fr.nil n0)
  show own_Ends p e below _ (T5.setTop (mkF m 6 #[.val (.int t1), .val nv, .unset, .unset, .unset, .unset, .unset, .unset, .unset] [(.int (q ([111, 105, 100] : List Int32)))]))
  refine own_istoreN X5 hx #[.val (.int t1), .val nv, .val (.int (q ([111, 105, 100] : List Int32))), .unset, .unset, .unset, .unset, .unset, .unset] (hb hby own_d_method_4_code_6) rfl rfl ?_
  refine own_ldcS X5 hx hZ hown (hw _ (List.mem_of_getElem? (i := 5) rfl)) hwS hh5 HH1 hEL (List.mem_of_getElem? (i := 9) rfl) (vs := ((([109, 111, 110, 101, 121] : List Int32).map StrChars.lo8).map Value.int)) (z := (5 : Int32)) (by decide +kernel) (by decide) (by decide) (hb hby own_d_method_4_code_7) 20 (by decide) (by decide) (by decide) (by decide) rfl ?_
  intro ls6 T6 h6 lt6 k6 X6 e6 E6 hZ hown HH6 A6 Ex6 Fc6 Fv6 V6 ne6
  have K7 := K2.ext E6
  refine own_aloadN X6 hx (hb hby own_d_method_4_code_9) rfl SN.isref rfl ?_
  have f8 := (f3.ext E6)
  have f9 := (f4.ext E6)
  refine own_virtualB X6 hx hZ (y := (⟨"java/lang/String", "equals", "(Ljava/lang/Object;)Z"⟩ : MethodName)) (z := (⟨"java/lang/String", "equals", "(Ljava/lang/Object;)Z"⟩ : MethodName)) hown (hw _ (List.mem_of_getElem? (i := 17) rfl)) (hw _ (List.mem_of_getElem? (i := 18) rfl)) (notFace_of_selects (args := #[]) (mvT hZ (hw _ (List.mem_of_getElem? (i := 20) rfl)))) (hw _ (List.mem_of_getElem? (i := 20) rfl)) (hw _ (List.mem_of_getElem? (i := 19) rfl)) (by decide) e6 (W := 0) (ce := 0) (sl := 0) (by decide) (by decide) [nv] [] (by rw [hml]; rfl) Ex6 (fun v h' L => v = some (.int (q ([109, 111, 110, 101, 121] : List Int32))) ∧ L = [] ∧ h' = h6) (own_eqSN (W := 0) hZ hw (cs := ([109, 111, 110, 101, 121] : List Int32)) ⟨_, _, _, _, _, Ex6, Fv6, Fc6, V6, (StrChars.Road.codOf (cs := [109, 111, 110, 101, 121]) (n := 5) rfl (by decide)), (by decide), (Nat.le_of_ble_eq_true rfl)⟩ f8 (SC.ext f9.2) hzc (by decide) (by decide)) own_pd3 rfl rfl rfl (hb hby own_d_method_4_code_10) rfl ?_
  intro v10 T10 L10 X10 hQ10
  obtain ⟨rfl, rfl, hh10⟩ := hQ10
  have N10 := Fr.app N5 (Fr.nil n0)
  show own_Ends p e below _ (T10.setTop (mkF m 13 #[.val (.int t1), .val nv, .val (.int (q ([111, 105, 100] : List Int32))), .unset, .unset, .unset, .unset, .unset, .unset] [(.int (q ([109, 111, 110, 101, 121] : List Int32)))]))
  refine own_istoreN X10 hx #[.val (.int t1), .val nv, .val (.int (q ([111, 105, 100] : List Int32))), .val (.int (q ([109, 111, 110, 101, 121] : List Int32))), .unset, .unset, .unset, .unset, .unset] (hb hby own_d_method_4_code_13) rfl rfl ?_
  refine own_ldcS X10 hx hZ hown (hw _ (List.mem_of_getElem? (i := 31) rfl)) hwS hh10 HH6 hEL (List.mem_of_getElem? (i := 10) rfl) (vs := ((([98, 111, 111, 108] : List Int32).map StrChars.lo8).map Value.int)) (z := (4 : Int32)) (by decide +kernel) (by decide) (by decide) (hb hby own_d_method_4_code_14) 16 (by decide) (by decide) (by decide) (by decide) rfl ?_
  intro ls11 T11 h11 lt11 k11 X11 e11 E11 hZ hown HH11 A11 Ex11 Fc11 Fv11 V11 ne11
  have K12 := K7.ext E11
  refine own_aloadN X11 hx (hb hby own_d_method_4_code_16) rfl SN.isref rfl ?_
  have f13 := (f8.ext E11)
  have f14 := (f9.ext E11)
  refine own_virtualB X11 hx hZ (y := (⟨"java/lang/String", "equals", "(Ljava/lang/Object;)Z"⟩ : MethodName)) (z := (⟨"java/lang/String", "equals", "(Ljava/lang/Object;)Z"⟩ : MethodName)) hown (hw _ (List.mem_of_getElem? (i := 17) rfl)) (hw _ (List.mem_of_getElem? (i := 18) rfl)) (notFace_of_selects (args := #[]) (mvT hZ (hw _ (List.mem_of_getElem? (i := 20) rfl)))) (hw _ (List.mem_of_getElem? (i := 20) rfl)) (hw _ (List.mem_of_getElem? (i := 19) rfl)) (by decide) e11 (W := 0) (ce := 0) (sl := 0) (by decide) (by decide) [nv] [] (by rw [hml]; rfl) Ex11 (fun v h' L => v = some (.int (q ([98, 111, 111, 108] : List Int32))) ∧ L = [] ∧ h' = h11) (own_eqSN (W := 0) hZ hw (cs := ([98, 111, 111, 108] : List Int32)) ⟨_, _, _, _, _, Ex11, Fv11, Fc11, V11, (StrChars.Road.codOf (cs := [98, 111, 111, 108]) (n := 4) rfl (by decide)), (by decide), (Nat.le_of_ble_eq_true rfl)⟩ f13 (SC.ext f14.2) hzc (by decide) (by decide)) own_pd3 rfl rfl rfl (hb hby own_d_method_4_code_17) rfl ?_
  intro v15 T15 L15 X15 hQ15
  obtain ⟨rfl, rfl, hh15⟩ := hQ15
  have N15 := Fr.app N10 (Fr.nil n0)
  show own_Ends p e below _ (T15.setTop (mkF m 20 #[.val (.int t1), .val nv, .val (.int (q ([111, 105, 100] : List Int32))), .val (.int (q ([109, 111, 110, 101, 121] : List Int32))), .unset, .unset, .unset, .unset, .unset] [(.int (q ([98, 111, 111, 108] : List Int32)))]))
  refine own_istore X15 hx #[.val (.int t1), .val nv, .val (.int (q ([111, 105, 100] : List Int32))), .val (.int (q ([109, 111, 110, 101, 121] : List Int32))), .val (.int (q ([98, 111, 111, 108] : List Int32))), .unset, .unset, .unset, .unset] (hb hby own_d_method_4_code_20) rfl rfl ?_
  refine own_ldcS X15 hx hZ hown (hw _ (List.mem_of_getElem? (i := 32) rfl)) hwS hh15 HH11 hEL (List.mem_of_getElem? (i := 11) rfl) (vs := ((([116, 105, 109, 101, 116, 122] : List Int32).map StrChars.lo8).map Value.int)) (z := (6 : Int32)) (by decide +kernel) (by decide) (by decide) (hb hby own_d_method_4_code_22) 24 (by decide) (by decide) (by decide) (by decide) rfl ?_
  intro ls16 T16 h16 lt16 k16 X16 e16 E16 hZ hown HH16 A16 Ex16 Fc16 Fv16 V16 ne16
  have K17 := K12.ext E16
  refine own_aloadN X16 hx (hb hby own_d_method_4_code_24) rfl SN.isref rfl ?_
  have f18 := (f13.ext E16)
  have f19 := (f14.ext E16)
  refine own_virtualB X16 hx hZ (y := (⟨"java/lang/String", "equals", "(Ljava/lang/Object;)Z"⟩ : MethodName)) (z := (⟨"java/lang/String", "equals", "(Ljava/lang/Object;)Z"⟩ : MethodName)) hown (hw _ (List.mem_of_getElem? (i := 17) rfl)) (hw _ (List.mem_of_getElem? (i := 18) rfl)) (notFace_of_selects (args := #[]) (mvT hZ (hw _ (List.mem_of_getElem? (i := 20) rfl)))) (hw _ (List.mem_of_getElem? (i := 20) rfl)) (hw _ (List.mem_of_getElem? (i := 19) rfl)) (by decide) e16 (W := 0) (ce := 0) (sl := 0) (by decide) (by decide) [nv] [] (by rw [hml]; rfl) Ex16 (fun v h' L => v = some (.int (q ([116, 105, 109, 101, 116, 122] : List Int32))) ∧ L = [] ∧ h' = h16) (own_eqSN (W := 0) hZ hw (cs := ([116, 105, 109, 101, 116, 122] : List Int32)) ⟨_, _, _, _, _, Ex16, Fv16, Fc16, V16, (StrChars.Road.codOf (cs := [116, 105, 109, 101, 116, 122]) (n := 6) rfl (by decide)), (by decide), (Nat.le_of_ble_eq_true rfl)⟩ f18 (SC.ext f19.2) hzc (by decide) (by decide)) own_pd3 rfl rfl rfl (hb hby own_d_method_4_code_25) rfl ?_
  intro v20 T20 L20 X20 hQ20
  obtain ⟨rfl, rfl, hh20⟩ := hQ20
  have N20 := Fr.app N15 (Fr.nil n0)
  show own_Ends p e below _ (T20.setTop (mkF m 28 #[.val (.int t1), .val nv, .val (.int (q ([111, 105, 100] : List Int32))), .val (.int (q ([109, 111, 110, 101, 121] : List Int32))), .val (.int (q ([98, 111, 111, 108] : List Int32))), .unset, .unset, .unset, .unset] [(.int (q ([116, 105, 109, 101, 116, 122] : List Int32)))]))
  refine own_istore X20 hx #[.val (.int t1), .val nv, .val (.int (q ([111, 105, 100] : List Int32))), .val (.int (q ([109, 111, 110, 101, 121] : List Int32))), .val (.int (q ([98, 111, 111, 108] : List Int32))), .val (.int (q ([116, 105, 109, 101, 116, 122] : List Int32))), .unset, .unset, .unset] (hb hby own_d_method_4_code_28) rfl rfl ?_
  refine own_ldcS X20 hx hZ hown (hw _ (List.mem_of_getElem? (i := 33) rfl)) hwS hh20 HH16 hEL (List.mem_of_getElem? (i := 12) rfl) (vs := ((([116, 105, 109, 101, 115, 116, 97, 109, 112, 116, 122] : List Int32).map StrChars.lo8).map Value.int)) (z := (11 : Int32)) (by decide +kernel) (by decide) (by decide) (hb hby own_d_method_4_code_30) 44 (by decide) (by decide) (by decide) (by decide) rfl ?_
  intro ls21 T21 h21 lt21 k21 X21 e21 E21 hZ hown HH21 A21 Ex21 Fc21 Fv21 V21 ne21
  have K22 := K17.ext E21
  refine own_aloadN X21 hx (hb hby own_d_method_4_code_32) rfl SN.isref rfl ?_
  have f23 := (f18.ext E21)
  have f24 := (f19.ext E21)
  refine own_virtualB X21 hx hZ (y := (⟨"java/lang/String", "equals", "(Ljava/lang/Object;)Z"⟩ : MethodName)) (z := (⟨"java/lang/String", "equals", "(Ljava/lang/Object;)Z"⟩ : MethodName)) hown (hw _ (List.mem_of_getElem? (i := 17) rfl)) (hw _ (List.mem_of_getElem? (i := 18) rfl)) (notFace_of_selects (args := #[]) (mvT hZ (hw _ (List.mem_of_getElem? (i := 20) rfl)))) (hw _ (List.mem_of_getElem? (i := 20) rfl)) (hw _ (List.mem_of_getElem? (i := 19) rfl)) (by decide) e21 (W := 0) (ce := 0) (sl := 0) (by decide) (by decide) [nv] [] (by rw [hml]; rfl) Ex21 (fun v h' L => v = some (.int (q ([116, 105, 109, 101, 115, 116, 97, 109, 112, 116, 122] : List Int32))) ∧ L = [] ∧ h' = h21) (own_eqSN (W := 0) hZ hw (cs := ([116, 105, 109, 101, 115, 116, 97, 109, 112, 116, 122] : List Int32)) ⟨_, _, _, _, _, Ex21, Fv21, Fc21, V21, (StrChars.Road.codOf (cs := [116, 105, 109, 101, 115, 116, 97, 109, 112, 116, 122]) (n := 11) rfl (by decide)), (by decide), (Nat.le_of_ble_eq_true rfl)⟩ f23 (SC.ext f24.2) hzc (by decide) (by decide)) own_pd3 rfl rfl rfl (hb hby own_d_method_4_code_33) rfl ?_
  intro v25 T25 L25 X25 hQ25
  obtain ⟨rfl, rfl, hh25⟩ := hQ25
  have N25 := Fr.app N20 (Fr.nil n0)
  show own_Ends p e below _ (T25.setTop (mkF m 36 #[.val (.int t1), .val nv, .val (.int (q ([111, 105, 100] : List Int32))), .val (.int (q ([109, 111, 110, 101, 121] : List Int32))), .val (.int (q ([98, 111, 111, 108] : List Int32))), .val (.int (q ([116, 105, 109, 101, 116, 122] : List Int32))), .unset, .unset, .unset] [(.int (q ([116, 105, 109, 101, 115, 116, 97, 109, 112, 116, 122] : List Int32)))]))
  refine own_istore X25 hx #[.val (.int t1), .val nv, .val (.int (q ([111, 105, 100] : List Int32))), .val (.int (q ([109, 111, 110, 101, 121] : List Int32))), .val (.int (q ([98, 111, 111, 108] : List Int32))), .val (.int (q ([116, 105, 109, 101, 116, 122] : List Int32))), .val (.int (q ([116, 105, 109, 101, 115, 116, 97, 109, 112, 116, 122] : List Int32))), .unset, .unset] (hb hby own_d_method_4_code_36) rfl rfl ?_
  refine own_ldcS X25 hx hZ hown (hw _ (List.mem_of_getElem? (i := 34) rfl)) hwS hh25 HH21 hEL (List.mem_of_getElem? (i := 13) rfl) (vs := ((([106, 115, 111, 110] : List Int32).map StrChars.lo8).map Value.int)) (z := (4 : Int32)) (by decide +kernel) (by decide) (by decide) (hb hby own_d_method_4_code_38) 16 (by decide) (by decide) (by decide) (by decide) rfl ?_
  intro ls26 T26 h26 lt26 k26 X26 e26 E26 hZ hown HH26 A26 Ex26 Fc26 Fv26 V26 ne26
  have K27 := K22.ext E26
  refine own_aloadN X26 hx (hb hby own_d_method_4_code_40) rfl SN.isref rfl ?_
  have f28 := (f23.ext E26)
  have f29 := (f24.ext E26)
  refine own_virtualB X26 hx hZ (y := (⟨"java/lang/String", "equals", "(Ljava/lang/Object;)Z"⟩ : MethodName)) (z := (⟨"java/lang/String", "equals", "(Ljava/lang/Object;)Z"⟩ : MethodName)) hown (hw _ (List.mem_of_getElem? (i := 17) rfl)) (hw _ (List.mem_of_getElem? (i := 18) rfl)) (notFace_of_selects (args := #[]) (mvT hZ (hw _ (List.mem_of_getElem? (i := 20) rfl)))) (hw _ (List.mem_of_getElem? (i := 20) rfl)) (hw _ (List.mem_of_getElem? (i := 19) rfl)) (by decide) e26 (W := 0) (ce := 0) (sl := 0) (by decide) (by decide) [nv] [] (by rw [hml]; rfl) Ex26 (fun v h' L => v = some (.int (q ([106, 115, 111, 110] : List Int32))) ∧ L = [] ∧ h' = h26) (own_eqSN (W := 0) hZ hw (cs := ([106, 115, 111, 110] : List Int32)) ⟨_, _, _, _, _, Ex26, Fv26, Fc26, V26, (StrChars.Road.codOf (cs := [106, 115, 111, 110]) (n := 4) rfl (by decide)), (by decide), (Nat.le_of_ble_eq_true rfl)⟩ f28 (SC.ext f29.2) hzc (by decide) (by decide)) own_pd3 rfl rfl rfl (hb hby own_d_method_4_code_41) rfl ?_
  intro v30 T30 L30 X30 hQ30
  obtain ⟨rfl, rfl, hh30⟩ := hQ30
  have N30 := Fr.app N25 (Fr.nil n0)
  show own_Ends p e below _ (T30.setTop (mkF m 44 #[.val (.int t1), .val nv, .val (.int (q ([111, 105, 100] : List Int32))), .val (.int (q ([109, 111, 110, 101, 121] : List Int32))), .val (.int (q ([98, 111, 111, 108] : List Int32))), .val (.int (q ([116, 105, 109, 101, 116, 122] : List Int32))), .val (.int (q ([116, 105, 109, 101, 115, 116, 97, 109, 112, 116, 122] : List Int32))), .unset, .unset] [(.int (q ([106, 115, 111, 110] : List Int32)))]))
  refine own_if_ne X30 hx (hb hby own_d_method_4_code_44) (by decide) rfl rfl (fun hc44_31 => ?_) (fun hc44_31 => ?_)
  · refine own_iconst X30 hx (1 : Int32) (hb hby own_d_method_4_code_56) (by decide) rfl ?_
    refine own_goto X30 hx (hb hby own_d_method_4_code_57) (by decide) rfl ?_
    refine own_istore X30 hx #[.val (.int t1), .val nv, .val (.int (q ([111, 105, 100] : List Int32))), .val (.int (q ([109, 111, 110, 101, 121] : List Int32))), .val (.int (q ([98, 111, 111, 108] : List Int32))), .val (.int (q ([116, 105, 109, 101, 116, 122] : List Int32))), .val (.int (q ([116, 105, 109, 101, 115, 116, 97, 109, 112, 116, 122] : List Int32))), .val (.int (1 : Int32)), .unset] (hb hby own_d_method_4_code_61) rfl rfl ?_
    refine own_ldcS X30 hx hZ hown (hw _ (List.mem_of_getElem? (i := 36) rfl)) hwS hh30 HH26 hEL (List.mem_of_getElem? (i := 15) rfl) (vs := ((([117, 117, 105, 100] : List Int32).map StrChars.lo8).map Value.int)) (z := (4 : Int32)) (by decide +kernel) (by decide) (by decide) (hb hby own_d_method_4_code_63) 16 (by decide) (by decide) (by decide) (by decide) rfl ?_
    intro ls32 T32 h32 lt32 k32 X32 e32 E32 hZ hown HH32 A32 Ex32 Fc32 Fv32 V32 ne32
    have K33 := K27.ext E32
    refine own_aloadN X32 hx (hb hby own_d_method_4_code_65) rfl SN.isref rfl ?_
    have f34 := (f28.ext E32)
    have f35 := (f29.ext E32)
    refine own_virtualB X32 hx hZ (y := (⟨"java/lang/String", "equals", "(Ljava/lang/Object;)Z"⟩ : MethodName)) (z := (⟨"java/lang/String", "equals", "(Ljava/lang/Object;)Z"⟩ : MethodName)) hown (hw _ (List.mem_of_getElem? (i := 17) rfl)) (hw _ (List.mem_of_getElem? (i := 18) rfl)) (notFace_of_selects (args := #[]) (mvT hZ (hw _ (List.mem_of_getElem? (i := 20) rfl)))) (hw _ (List.mem_of_getElem? (i := 20) rfl)) (hw _ (List.mem_of_getElem? (i := 19) rfl)) (by decide) e32 (W := 0) (ce := 0) (sl := 0) (by decide) (by decide) [nv] [] (by rw [hml]; rfl) Ex32 (fun v h' L => v = some (.int (q ([117, 117, 105, 100] : List Int32))) ∧ L = [] ∧ h' = h32) (own_eqSN (W := 0) hZ hw (cs := ([117, 117, 105, 100] : List Int32)) ⟨_, _, _, _, _, Ex32, Fv32, Fc32, V32, (StrChars.Road.codOf (cs := [117, 117, 105, 100]) (n := 4) rfl (by decide)), (by decide), (Nat.le_of_ble_eq_true rfl)⟩ f34 (SC.ext f35.2) hzc (by decide) (by decide)) own_pd3 rfl rfl rfl (hb hby own_d_method_4_code_66) rfl ?_
    intro v36 T36 L36 X36 hQ36
    obtain ⟨rfl, rfl, hh36⟩ := hQ36
    have N36 := Fr.app N30 (Fr.nil n0)
    show own_Ends p e below _ (T36.setTop (mkF m 69 #[.val (.int t1), .val nv, .val (.int (q ([111, 105, 100] : List Int32))), .val (.int (q ([109, 111, 110, 101, 121] : List Int32))), .val (.int (q ([98, 111, 111, 108] : List Int32))), .val (.int (q ([116, 105, 109, 101, 116, 122] : List Int32))), .val (.int (q ([116, 105, 109, 101, 115, 116, 97, 109, 112, 116, 122] : List Int32))), .val (.int (1 : Int32)), .unset] [(.int (q ([117, 117, 105, 100] : List Int32)))]))
    refine own_istore X36 hx #[.val (.int t1), .val nv, .val (.int (q ([111, 105, 100] : List Int32))), .val (.int (q ([109, 111, 110, 101, 121] : List Int32))), .val (.int (q ([98, 111, 111, 108] : List Int32))), .val (.int (q ([116, 105, 109, 101, 116, 122] : List Int32))), .val (.int (q ([116, 105, 109, 101, 115, 116, 97, 109, 112, 116, 122] : List Int32))), .val (.int (1 : Int32)), .val (.int (q ([117, 117, 105, 100] : List Int32)))] (hb hby own_d_method_4_code_69) rfl rfl ?_
    refine own_iloadN X36 hx (hb hby own_d_method_4_code_71) rfl rfl ?_
    refine own_iconst X36 hx (5 : Int32) (hb hby own_d_method_4_code_72) (by decide) rfl ?_
    refine own_icmp_ne X36 hx (hb hby own_d_method_4_code_73) (by decide) rfl rfl (fun hc73_37 => ?_) (fun hc73_37 => ?_)
    · refine own_iloadN X36 hx (hb hby own_d_method_4_code_80) rfl rfl ?_
      refine own_iconst X36 hx (4 : Int32) (hb hby own_d_method_4_code_81) (by decide) rfl ?_
      refine own_icmp_ne X36 hx (hb hby own_d_method_4_code_82) (by decide) rfl rfl (fun hc82_38 => ?_) (fun hc82_38 => ?_)
      · refine own_iloadN X36 hx (hb hby own_d_method_4_code_89) rfl rfl ?_
        refine own_bipush X36 hx (-5 : Int32) (hb hby own_d_method_4_code_90) (by decide) rfl ?_
        refine own_icmp_ne X36 hx (hb hby own_d_method_4_code_92) (by decide) rfl rfl (fun hc92_39 => ?_) (fun hc92_39 => ?_)
        · refine own_iloadN X36 hx (hb hby own_d_method_4_code_107) rfl rfl ?_
          refine own_bipush X36 hx (7 : Int32) (hb hby own_d_method_4_code_108) (by decide) rfl ?_
          refine own_icmp_ne X36 hx (hb hby own_d_method_4_code_110) (by decide) rfl rfl (fun hc110_40 => ?_) (fun hc110_40 => ?_)
          · refine own_iloadN X36 hx (hb hby own_d_method_4_code_117) rfl rfl ?_
            refine own_bipush X36 hx (8 : Int32) (hb hby own_d_method_4_code_118) (by decide) rfl ?_
            refine own_icmp_ne X36 hx (hb hby own_d_method_4_code_120) (by decide) rfl rfl (fun hc120_41 => ?_) (fun hc120_41 => ?_)
            · refine own_iloadN X36 hx (hb hby own_d_method_4_code_135) rfl rfl ?_
              refine own_iconst X36 hx (2 : Int32) (hb hby own_d_method_4_code_136) (by decide) rfl ?_
              refine own_icmp_eq X36 hx (hb hby own_d_method_4_code_137) (by decide) rfl rfl (fun hc137_42 => ?_) (fun hc137_42 => ?_)
              · refine own_getS X36 hx hZ hown (host := "") (Or.inl (hw _ (List.mem_of_getElem? (i := 89) rfl))) Via.refl hh36 ((HS ("DECIMAL", 5) (List.mem_of_getElem? (i := 5) rfl)).ext f35.2) (hb hby own_d_method_4_code_145) rfl ?_
                intro T43 X43 e43
                exact own_retAH X43 hx hZ e43 HH32 hEL hlocks hret rfl rfl (hb hby own_d_method_4_code_148) (by decide) (by decide) ⟨congrArg some (by simp only [own_exp, if_neg hc44_31, if_neg hc73_37, if_neg hc82_38, if_neg hc92_39, if_neg hc110_40, if_neg hc120_41, if_pos hc137_42]), N36, by rw [e43]; exact K33⟩
              · refine own_iloadN X36 hx (hb hby own_d_method_4_code_140) rfl rfl ?_
                refine own_iconst X36 hx (3 : Int32) (hb hby own_d_method_4_code_141) (by decide) rfl ?_
                refine own_icmp_ne X36 hx (hb hby own_d_method_4_code_142) (by decide) rfl rfl (fun hc142_44 => ?_) (fun hc142_44 => ?_)
                · refine own_iloadN X36 hx (hb hby own_d_method_4_code_149) rfl rfl ?_
                  refine own_bipush X36 hx (16 : Int32) (hb hby own_d_method_4_code_150) (by decide) rfl ?_
                  refine own_icmp_ne X36 hx (hb hby own_d_method_4_code_152) (by decide) rfl rfl (fun hc152_45 => ?_) (fun hc152_45 => ?_)
                  · refine own_iloadN X36 hx (hb hby own_d_method_4_code_159) rfl rfl ?_
                    refine own_bipush X36 hx (-7 : Int32) (hb hby own_d_method_4_code_160) (by decide) rfl ?_
                    refine own_icmp_ne X36 hx (hb hby own_d_method_4_code_162) (by decide) rfl rfl (fun hc162_46 => ?_) (fun hc162_46 => ?_)
                    · refine own_iloadN X36 hx (hb hby own_d_method_4_code_178) rfl rfl ?_
                      refine own_iconst X36 hx (1 : Int32) (hb hby own_d_method_4_code_179) (by decide) rfl ?_
                      refine own_icmp_eq X36 hx (hb hby own_d_method_4_code_180) (by decide) rfl rfl (fun hc180_47 => ?_) (fun hc180_47 => ?_)
                      · refine own_getS X36 hx hZ hown (host := "") (Or.inl (hw _ (List.mem_of_getElem? (i := 104) rfl))) Via.refl hh36 ((HS ("UTF8", 7) (List.mem_of_getElem? (i := 7) rfl)).ext f35.2) (hb hby own_d_method_4_code_212) rfl ?_
                        intro T48 X48 e48
                        exact own_retAH X48 hx hZ e48 HH32 hEL hlocks hret rfl rfl (hb hby own_d_method_4_code_215) (by decide) (by decide) ⟨congrArg some (by simp only [own_exp, if_neg hc44_31, if_neg hc73_37, if_neg hc82_38, if_neg hc92_39, if_neg hc110_40, if_neg hc120_41, if_neg hc137_42, if_neg hc142_44, if_neg hc152_45, if_neg hc162_46, if_pos hc180_47]), N36, by rw [e48]; exact K33⟩
                      · refine own_iloadN X36 hx (hb hby own_d_method_4_code_183) rfl rfl ?_
                        refine own_bipush X36 hx (12 : Int32) (hb hby own_d_method_4_code_184) (by decide) rfl ?_
                        refine own_icmp_eq X36 hx (hb hby own_d_method_4_code_186) (by decide) rfl rfl (fun hc186_49 => ?_) (fun hc186_49 => ?_)
                        · refine own_getS X36 hx hZ hown (host := "") (Or.inl (hw _ (List.mem_of_getElem? (i := 104) rfl))) Via.refl hh36 ((HS ("UTF8", 7) (List.mem_of_getElem? (i := 7) rfl)).ext f35.2) (hb hby own_d_method_4_code_212) rfl ?_
                          intro T50 X50 e50
                          exact own_retAH X50 hx hZ e50 HH32 hEL hlocks hret rfl rfl (hb hby own_d_method_4_code_215) (by decide) (by decide) ⟨congrArg some (by simp only [own_exp, if_neg hc44_31, if_neg hc73_37, if_neg hc82_38, if_neg hc92_39, if_neg hc110_40, if_neg hc120_41, if_neg hc137_42, if_neg hc142_44, if_neg hc152_45, if_neg hc162_46, if_neg hc180_47, if_pos hc186_49]), N36, by rw [e50]; exact K33⟩
                        · refine own_iloadN X36 hx (hb hby own_d_method_4_code_189) rfl rfl ?_
                          refine own_iconst X36 hx (-1 : Int32) (hb hby own_d_method_4_code_190) (by decide) rfl ?_
                          refine own_icmp_eq X36 hx (hb hby own_d_method_4_code_191) (by decide) rfl rfl (fun hc191_51 => ?_) (fun hc191_51 => ?_)
                          · refine own_getS X36 hx hZ hown (host := "") (Or.inl (hw _ (List.mem_of_getElem? (i := 104) rfl))) Via.refl hh36 ((HS ("UTF8", 7) (List.mem_of_getElem? (i := 7) rfl)).ext f35.2) (hb hby own_d_method_4_code_212) rfl ?_
                            intro T52 X52 e52
                            exact own_retAH X52 hx hZ e52 HH32 hEL hlocks hret rfl rfl (hb hby own_d_method_4_code_215) (by decide) (by decide) ⟨congrArg some (by simp only [own_exp, if_neg hc44_31, if_neg hc73_37, if_neg hc82_38, if_neg hc92_39, if_neg hc110_40, if_neg hc120_41, if_neg hc137_42, if_neg hc142_44, if_neg hc152_45, if_neg hc162_46, if_neg hc180_47, if_neg hc186_49, if_pos hc191_51]), N36, by rw [e52]; exact K33⟩
                          · refine own_iloadN X36 hx (hb hby own_d_method_4_code_194) rfl rfl ?_
                            refine own_bipush X36 hx (-15 : Int32) (hb hby own_d_method_4_code_195) (by decide) rfl ?_
                            refine own_icmp_eq X36 hx (hb hby own_d_method_4_code_197) (by decide) rfl rfl (fun hc197_53 => ?_) (fun hc197_53 => ?_)
                            · refine own_getS X36 hx hZ hown (host := "") (Or.inl (hw _ (List.mem_of_getElem? (i := 104) rfl))) Via.refl hh36 ((HS ("UTF8", 7) (List.mem_of_getElem? (i := 7) rfl)).ext f35.2) (hb hby own_d_method_4_code_212) rfl ?_
                              intro T54 X54 e54
                              exact own_retAH X54 hx hZ e54 HH32 hEL hlocks hret rfl rfl (hb hby own_d_method_4_code_215) (by decide) (by decide) ⟨congrArg some (by simp only [own_exp, if_neg hc44_31, if_neg hc73_37, if_neg hc82_38, if_neg hc92_39, if_neg hc110_40, if_neg hc120_41, if_neg hc137_42, if_neg hc142_44, if_neg hc152_45, if_neg hc162_46, if_neg hc180_47, if_neg hc186_49, if_neg hc191_51, if_pos hc197_53]), N36, by rw [e54]; exact K33⟩
                            · refine own_iloadN X36 hx (hb hby own_d_method_4_code_200) rfl rfl ?_
                              refine own_bipush X36 hx (-9 : Int32) (hb hby own_d_method_4_code_201) (by decide) rfl ?_
                              refine own_icmp_eq X36 hx (hb hby own_d_method_4_code_203) (by decide) rfl rfl (fun hc203_55 => ?_) (fun hc203_55 => ?_)
                              · refine own_getS X36 hx hZ hown (host := "") (Or.inl (hw _ (List.mem_of_getElem? (i := 104) rfl))) Via.refl hh36 ((HS ("UTF8", 7) (List.mem_of_getElem? (i := 7) rfl)).ext f35.2) (hb hby own_d_method_4_code_212) rfl ?_
                                intro T56 X56 e56
                                exact own_retAH X56 hx hZ e56 HH32 hEL hlocks hret rfl rfl (hb hby own_d_method_4_code_215) (by decide) (by decide) ⟨congrArg some (by simp only [own_exp, if_neg hc44_31, if_neg hc73_37, if_neg hc82_38, if_neg hc92_39, if_neg hc110_40, if_neg hc120_41, if_neg hc137_42, if_neg hc142_44, if_neg hc152_45, if_neg hc162_46, if_neg hc180_47, if_neg hc186_49, if_neg hc191_51, if_neg hc197_53, if_pos hc203_55]), N36, by rw [e56]; exact K33⟩
                              · refine own_iloadN X36 hx (hb hby own_d_method_4_code_206) rfl rfl ?_
                                refine own_bipush X36 hx (-16 : Int32) (hb hby own_d_method_4_code_207) (by decide) rfl ?_
                                refine own_icmp_ne X36 hx (hb hby own_d_method_4_code_209) (by decide) rfl rfl (fun hc209_57 => ?_) (fun hc209_57 => ?_)
                                · refine own_iloadN X36 hx (hb hby own_d_method_4_code_216) rfl rfl ?_
                                  refine own_bipush X36 hx (91 : Int32) (hb hby own_d_method_4_code_217) (by decide) rfl ?_
                                  refine own_icmp_ne X36 hx (hb hby own_d_method_4_code_219) (by decide) rfl rfl (fun hc219_58 => ?_) (fun hc219_58 => ?_)
                                  · refine own_iloadN X36 hx (hb hby own_d_method_4_code_226) rfl rfl ?_
                                    refine own_bipush X36 hx (92 : Int32) (hb hby own_d_method_4_code_227) (by decide) rfl ?_
                                    refine own_icmp_ne X36 hx (hb hby own_d_method_4_code_229) (by decide) rfl rfl (fun hc229_59 => ?_) (fun hc229_59 => ?_)
                                    · refine own_iloadN X36 hx (hb hby own_d_method_4_code_245) rfl rfl ?_
                                      refine own_bipush X36 hx (93 : Int32) (hb hby own_d_method_4_code_246) (by decide) rfl ?_
                                      refine own_icmp_ne X36 hx (hb hby own_d_method_4_code_248) (by decide) rfl rfl (fun hc248_60 => ?_) (fun hc248_60 => ?_)
                                      · refine own_iloadN X36 hx (hb hby own_d_method_4_code_266) rfl rfl ?_
                                        refine own_sipush X36 hx (2014 : Int32) (hb hby own_d_method_4_code_267) (by decide) rfl ?_
                                        refine own_icmp_ne X36 hx (hb hby own_d_method_4_code_270) (by decide) rfl rfl (fun hc270_61 => ?_) (fun hc270_61 => ?_)
                                        · refine own_iloadN X36 hx (hb hby own_d_method_4_code_277) rfl rfl ?_
                                          refine own_bipush X36 hx (-2 : Int32) (hb hby own_d_method_4_code_278) (by decide) rfl ?_
                                          refine own_icmp_eq X36 hx (hb hby own_d_method_4_code_280) (by decide) rfl rfl (fun hc280_62 => ?_) (fun hc280_62 => ?_)
                                          · refine own_getS X36 hx hZ hown (host := "") (Or.inl (hw _ (List.mem_of_getElem? (i := 114) rfl))) Via.refl hh36 ((HS ("BYTES", 12) (List.mem_of_getElem? (i := 12) rfl)).ext f35.2) (hb hby own_d_method_4_code_302) rfl ?_
                                            intro T63 X63 e63
                                            exact own_retAH X63 hx hZ e63 HH32 hEL hlocks hret rfl rfl (hb hby own_d_method_4_code_305) (by decide) (by decide) ⟨congrArg some (by simp only [own_exp, if_neg hc44_31, if_neg hc73_37, if_neg hc82_38, if_neg hc92_39, if_neg hc110_40, if_neg hc120_41, if_neg hc137_42, if_neg hc142_44, if_neg hc152_45, if_neg hc162_46, if_neg hc180_47, if_neg hc186_49, if_neg hc191_51, if_neg hc197_53, if_neg hc203_55, if_neg hc209_57, if_neg hc219_58, if_neg hc229_59, if_neg hc248_60, if_neg hc270_61, if_pos hc280_62]), N36, by rw [e63]; exact K33⟩
                                          · refine own_iloadN X36 hx (hb hby own_d_method_4_code_283) rfl rfl ?_
                                            refine own_bipush X36 hx (-3 : Int32) (hb hby own_d_method_4_code_284) (by decide) rfl ?_
                                            refine own_icmp_eq X36 hx (hb hby own_d_method_4_code_286) (by decide) rfl rfl (fun hc286_64 => ?_) (fun hc286_64 => ?_)
                                            · refine own_getS X36 hx hZ hown (host := "") (Or.inl (hw _ (List.mem_of_getElem? (i := 114) rfl))) Via.refl hh36 ((HS ("BYTES", 12) (List.mem_of_getElem? (i := 12) rfl)).ext f35.2) (hb hby own_d_method_4_code_302) rfl ?_
                                              intro T65 X65 e65
                                              exact own_retAH X65 hx hZ e65 HH32 hEL hlocks hret rfl rfl (hb hby own_d_method_4_code_305) (by decide) (by decide) ⟨congrArg some (by simp only [own_exp, if_neg hc44_31, if_neg hc73_37, if_neg hc82_38, if_neg hc92_39, if_neg hc110_40, if_neg hc120_41, if_neg hc137_42, if_neg hc142_44, if_neg hc152_45, if_neg hc162_46, if_neg hc180_47, if_neg hc186_49, if_neg hc191_51, if_neg hc197_53, if_neg hc203_55, if_neg hc209_57, if_neg hc219_58, if_neg hc229_59, if_neg hc248_60, if_neg hc270_61, if_neg hc280_62, if_pos hc286_64]), N36, by rw [e65]; exact K33⟩
                                            · refine own_iloadN X36 hx (hb hby own_d_method_4_code_289) rfl rfl ?_
                                              refine own_bipush X36 hx (-4 : Int32) (hb hby own_d_method_4_code_290) (by decide) rfl ?_
                                              refine own_icmp_eq X36 hx (hb hby own_d_method_4_code_292) (by decide) rfl rfl (fun hc292_66 => ?_) (fun hc292_66 => ?_)
                                              · refine own_getS X36 hx hZ hown (host := "") (Or.inl (hw _ (List.mem_of_getElem? (i := 114) rfl))) Via.refl hh36 ((HS ("BYTES", 12) (List.mem_of_getElem? (i := 12) rfl)).ext f35.2) (hb hby own_d_method_4_code_302) rfl ?_
                                                intro T67 X67 e67
                                                exact own_retAH X67 hx hZ e67 HH32 hEL hlocks hret rfl rfl (hb hby own_d_method_4_code_305) (by decide) (by decide) ⟨congrArg some (by simp only [own_exp, if_neg hc44_31, if_neg hc73_37, if_neg hc82_38, if_neg hc92_39, if_neg hc110_40, if_neg hc120_41, if_neg hc137_42, if_neg hc142_44, if_neg hc152_45, if_neg hc162_46, if_neg hc180_47, if_neg hc186_49, if_neg hc191_51, if_neg hc197_53, if_neg hc203_55, if_neg hc209_57, if_neg hc219_58, if_neg hc229_59, if_neg hc248_60, if_neg hc270_61, if_neg hc280_62, if_neg hc286_64, if_pos hc292_66]), N36, by rw [e67]; exact K33⟩
                                              · refine own_iloadN X36 hx (hb hby own_d_method_4_code_295) rfl rfl ?_
                                                refine own_sipush X36 hx (2004 : Int32) (hb hby own_d_method_4_code_296) (by decide) rfl ?_
                                                refine own_icmp_ne X36 hx (hb hby own_d_method_4_code_299) (by decide) rfl rfl (fun hc299_68 => ?_) (fun hc299_68 => ?_)
                                                · refine own_iloadN X36 hx (hb hby own_d_method_4_code_306) rfl rfl ?_
                                                  refine own_sipush X36 hx (1111 : Int32) (hb hby own_d_method_4_code_307) (by decide) rfl ?_
                                                  refine own_icmp_ne X36 hx (hb hby own_d_method_4_code_310) (by decide) rfl rfl (fun hc310_69 => ?_) (fun hc310_69 => ?_)
                                                  · refine own_aconst_null X36 hx (hb hby own_d_method_4_code_333) rfl ?_
                                                    exact own_retAH X36 hx hZ hh36 HH32 hEL hlocks hret rfl rfl (hb hby own_d_method_4_code_334) (by decide) (by decide) ⟨congrArg some (by simp only [own_exp, if_neg hc44_31, if_neg hc73_37, if_neg hc82_38, if_neg hc92_39, if_neg hc110_40, if_neg hc120_41, if_neg hc137_42, if_neg hc142_44, if_neg hc152_45, if_neg hc162_46, if_neg hc180_47, if_neg hc186_49, if_neg hc191_51, if_neg hc197_53, if_neg hc203_55, if_neg hc209_57, if_neg hc219_58, if_neg hc229_59, if_neg hc248_60, if_neg hc270_61, if_neg hc280_62, if_neg hc286_64, if_neg hc292_66, if_neg hc299_68, if_neg hc310_69]), N36, by rw [hh36]; exact K33⟩
                                                  · refine own_iload X36 hx (hb hby own_d_method_4_code_313) rfl rfl ?_
                                                    refine own_ifF X36 hx (hb hby own_d_method_4_code_315) rfl (by decide) ?_
                                                    refine own_getS X36 hx hZ hown (host := "") (Or.inl (hw _ (List.mem_of_getElem? (i := 104) rfl))) Via.refl hh36 ((HS ("UTF8", 7) (List.mem_of_getElem? (i := 7) rfl)).ext f35.2) (hb hby own_d_method_4_code_318) rfl ?_
                                                    intro T70 X70 e70
                                                    exact own_retAH X70 hx hZ e70 HH32 hEL hlocks hret rfl rfl (hb hby own_d_method_4_code_321) (by decide) (by decide) ⟨congrArg some (by simp only [own_exp, if_neg hc44_31, if_neg hc73_37, if_neg hc82_38, if_neg hc92_39, if_neg hc110_40, if_neg hc120_41, if_neg hc137_42, if_neg hc142_44, if_neg hc152_45, if_neg hc162_46, if_neg hc180_47, if_neg hc186_49, if_neg hc191_51, if_neg hc197_53, if_neg hc203_55, if_neg hc209_57, if_neg hc219_58, if_neg hc229_59, if_neg hc248_60, if_neg hc270_61, if_neg hc280_62, if_neg hc286_64, if_neg hc292_66, if_neg hc299_68, if_pos hc310_69]), N36, by rw [e70]; exact K33⟩
                                                · refine own_getS X36 hx hZ hown (host := "") (Or.inl (hw _ (List.mem_of_getElem? (i := 114) rfl))) Via.refl hh36 ((HS ("BYTES", 12) (List.mem_of_getElem? (i := 12) rfl)).ext f35.2) (hb hby own_d_method_4_code_302) rfl ?_
                                                  intro T71 X71 e71
                                                  exact own_retAH X71 hx hZ e71 HH32 hEL hlocks hret rfl rfl (hb hby own_d_method_4_code_305) (by decide) (by decide) ⟨congrArg some (by simp only [own_exp, if_neg hc44_31, if_neg hc73_37, if_neg hc82_38, if_neg hc92_39, if_neg hc110_40, if_neg hc120_41, if_neg hc137_42, if_neg hc142_44, if_neg hc152_45, if_neg hc162_46, if_neg hc180_47, if_neg hc186_49, if_neg hc191_51, if_neg hc197_53, if_neg hc203_55, if_neg hc209_57, if_neg hc219_58, if_neg hc229_59, if_neg hc248_60, if_neg hc270_61, if_neg hc280_62, if_neg hc286_64, if_neg hc292_66, if_pos hc299_68]), N36, by rw [e71]; exact K33⟩
                                        · refine own_getS X36 hx hZ hown (host := "") (Or.inl (hw _ (List.mem_of_getElem? (i := 123) rfl))) Via.refl hh36 ((HS ("INSTANT", 11) (List.mem_of_getElem? (i := 11) rfl)).ext f35.2) (hb hby own_d_method_4_code_273) rfl ?_
                                          intro T72 X72 e72
                                          exact own_retAH X72 hx hZ e72 HH32 hEL hlocks hret rfl rfl (hb hby own_d_method_4_code_276) (by decide) (by decide) ⟨congrArg some (by simp only [own_exp, if_neg hc44_31, if_neg hc73_37, if_neg hc82_38, if_neg hc92_39, if_neg hc110_40, if_neg hc120_41, if_neg hc137_42, if_neg hc142_44, if_neg hc152_45, if_neg hc162_46, if_neg hc180_47, if_neg hc186_49, if_neg hc191_51, if_neg hc197_53, if_neg hc203_55, if_neg hc209_57, if_neg hc219_58, if_neg hc229_59, if_neg hc248_60, if_pos hc270_61]), N36, by rw [e72]; exact K33⟩
                                      · refine own_iload X36 hx (hb hby own_d_method_4_code_251) rfl rfl ?_
                                        refine own_if_eq X36 hx (hb hby own_d_method_4_code_253) (by decide) rfl rfl (fun hc253_73 => ?_) (fun hc253_73 => ?_)
                                        · refine own_getS X36 hx hZ hown (host := "") (Or.inl (hw _ (List.mem_of_getElem? (i := 130) rfl))) Via.refl hh36 ((HS ("TIMESTAMP", 10) (List.mem_of_getElem? (i := 10) rfl)).ext f35.2) (hb hby own_d_method_4_code_262) rfl ?_
                                          intro T74 X74 e74
                                          exact own_retAH X74 hx hZ e74 HH32 hEL hlocks hret rfl rfl (hb hby own_d_method_4_code_265) (by decide) (by decide) ⟨congrArg some (by simp only [own_exp, if_neg hc44_31, if_neg hc73_37, if_neg hc82_38, if_neg hc92_39, if_neg hc110_40, if_neg hc120_41, if_neg hc137_42, if_neg hc142_44, if_neg hc152_45, if_neg hc162_46, if_neg hc180_47, if_neg hc186_49, if_neg hc191_51, if_neg hc197_53, if_neg hc203_55, if_neg hc209_57, if_neg hc219_58, if_neg hc229_59, if_pos hc248_60, if_pos hc253_73]), N36, by rw [e74]; exact K33⟩
                                        · refine own_getS X36 hx hZ hown (host := "") (Or.inl (hw _ (List.mem_of_getElem? (i := 123) rfl))) Via.refl hh36 ((HS ("INSTANT", 11) (List.mem_of_getElem? (i := 11) rfl)).ext f35.2) (hb hby own_d_method_4_code_256) rfl ?_
                                          intro T75 X75 e75
                                          refine own_goto X75 hx (hb hby own_d_method_4_code_259) (by decide) rfl ?_
                                          exact own_retAH X75 hx hZ e75 HH32 hEL hlocks hret rfl rfl (hb hby own_d_method_4_code_265) (by decide) (by decide) ⟨congrArg some (by simp only [own_exp, if_neg hc44_31, if_neg hc73_37, if_neg hc82_38, if_neg hc92_39, if_neg hc110_40, if_neg hc120_41, if_neg hc137_42, if_neg hc142_44, if_neg hc152_45, if_neg hc162_46, if_neg hc180_47, if_neg hc186_49, if_neg hc191_51, if_neg hc197_53, if_neg hc203_55, if_neg hc209_57, if_neg hc219_58, if_neg hc229_59, if_pos hc248_60, if_neg hc253_73]), N36, by rw [e75]; exact K33⟩
                                    · refine own_iload X36 hx (hb hby own_d_method_4_code_232) rfl rfl ?_
                                      refine own_if_eq X36 hx (hb hby own_d_method_4_code_234) (by decide) rfl rfl (fun hc234_76 => ?_) (fun hc234_76 => ?_)
                                      · refine own_getS X36 hx hZ hown (host := "") (Or.inl (hw _ (List.mem_of_getElem? (i := 126) rfl))) Via.refl hh36 ((HS ("TIME", 9) (List.mem_of_getElem? (i := 9) rfl)).ext f35.2) (hb hby own_d_method_4_code_241) rfl ?_
                                        intro T77 X77 e77
                                        exact own_retAH X77 hx hZ e77 HH32 hEL hlocks hret rfl rfl (hb hby own_d_method_4_code_244) (by decide) (by decide) ⟨congrArg some (by simp only [own_exp, if_neg hc44_31, if_neg hc73_37, if_neg hc82_38, if_neg hc92_39, if_neg hc110_40, if_neg hc120_41, if_neg hc137_42, if_neg hc142_44, if_neg hc152_45, if_neg hc162_46, if_neg hc180_47, if_neg hc186_49, if_neg hc191_51, if_neg hc197_53, if_neg hc203_55, if_neg hc209_57, if_neg hc219_58, if_pos hc229_59, if_pos hc234_76]), N36, by rw [e77]; exact K33⟩
                                      · refine own_aconst_null X36 hx (hb hby own_d_method_4_code_237) rfl ?_
                                        refine own_goto X36 hx (hb hby own_d_method_4_code_238) (by decide) rfl ?_
                                        exact own_retAH X36 hx hZ hh36 HH32 hEL hlocks hret rfl rfl (hb hby own_d_method_4_code_244) (by decide) (by decide) ⟨congrArg some (by simp only [own_exp, if_neg hc44_31, if_neg hc73_37, if_neg hc82_38, if_neg hc92_39, if_neg hc110_40, if_neg hc120_41, if_neg hc137_42, if_neg hc142_44, if_neg hc152_45, if_neg hc162_46, if_neg hc180_47, if_neg hc186_49, if_neg hc191_51, if_neg hc197_53, if_neg hc203_55, if_neg hc209_57, if_neg hc219_58, if_pos hc229_59, if_neg hc234_76]), N36, by rw [hh36]; exact K33⟩
                                  · refine own_getS X36 hx hZ hown (host := "") (Or.inl (hw _ (List.mem_of_getElem? (i := 120) rfl))) Via.refl hh36 ((HS ("DATE", 8) (List.mem_of_getElem? (i := 8) rfl)).ext f35.2) (hb hby own_d_method_4_code_222) rfl ?_
                                    intro T78 X78 e78
                                    exact own_retAH X78 hx hZ e78 HH32 hEL hlocks hret rfl rfl (hb hby own_d_method_4_code_225) (by decide) (by decide) ⟨congrArg some (by simp only [own_exp, if_neg hc44_31, if_neg hc73_37, if_neg hc82_38, if_neg hc92_39, if_neg hc110_40, if_neg hc120_41, if_neg hc137_42, if_neg hc142_44, if_neg hc152_45, if_neg hc162_46, if_neg hc180_47, if_neg hc186_49, if_neg hc191_51, if_neg hc197_53, if_neg hc203_55, if_neg hc209_57, if_pos hc219_58]), N36, by rw [e78]; exact K33⟩
                                · refine own_getS X36 hx hZ hown (host := "") (Or.inl (hw _ (List.mem_of_getElem? (i := 104) rfl))) Via.refl hh36 ((HS ("UTF8", 7) (List.mem_of_getElem? (i := 7) rfl)).ext f35.2) (hb hby own_d_method_4_code_212) rfl ?_
                                  intro T79 X79 e79
                                  exact own_retAH X79 hx hZ e79 HH32 hEL hlocks hret rfl rfl (hb hby own_d_method_4_code_215) (by decide) (by decide) ⟨congrArg some (by simp only [own_exp, if_neg hc44_31, if_neg hc73_37, if_neg hc82_38, if_neg hc92_39, if_neg hc110_40, if_neg hc120_41, if_neg hc137_42, if_neg hc142_44, if_neg hc152_45, if_neg hc162_46, if_neg hc180_47, if_neg hc186_49, if_neg hc191_51, if_neg hc197_53, if_neg hc203_55, if_pos hc209_57]), N36, by rw [e79]; exact K33⟩
                    · refine own_iload X36 hx (hb hby own_d_method_4_code_165) rfl rfl ?_
                      refine own_if_eq X36 hx (hb hby own_d_method_4_code_167) (by decide) rfl rfl (fun hc167_80 => ?_) (fun hc167_80 => ?_)
                      · refine own_aconst_null X36 hx (hb hby own_d_method_4_code_176) rfl ?_
                        exact own_retAH X36 hx hZ hh36 HH32 hEL hlocks hret rfl rfl (hb hby own_d_method_4_code_177) (by decide) (by decide) ⟨congrArg some (by simp only [own_exp, if_neg hc44_31, if_neg hc73_37, if_neg hc82_38, if_neg hc92_39, if_neg hc110_40, if_neg hc120_41, if_neg hc137_42, if_neg hc142_44, if_neg hc152_45, if_pos hc162_46, if_pos hc167_80]), N36, by rw [hh36]; exact K33⟩
                      · refine own_getS X36 hx hZ hown (host := "") (Or.inl (hw _ (List.mem_of_getElem? (i := 117) rfl))) Via.refl hh36 ((HS ("BOOLEAN", 6) (List.mem_of_getElem? (i := 6) rfl)).ext f35.2) (hb hby own_d_method_4_code_170) rfl ?_
                        intro T81 X81 e81
                        refine own_goto X81 hx (hb hby own_d_method_4_code_173) (by decide) rfl ?_
                        exact own_retAH X81 hx hZ e81 HH32 hEL hlocks hret rfl rfl (hb hby own_d_method_4_code_177) (by decide) (by decide) ⟨congrArg some (by simp only [own_exp, if_neg hc44_31, if_neg hc73_37, if_neg hc82_38, if_neg hc92_39, if_neg hc110_40, if_neg hc120_41, if_neg hc137_42, if_neg hc142_44, if_neg hc152_45, if_pos hc162_46, if_neg hc167_80]), N36, by rw [e81]; exact K33⟩
                  · refine own_getS X36 hx hZ hown (host := "") (Or.inl (hw _ (List.mem_of_getElem? (i := 117) rfl))) Via.refl hh36 ((HS ("BOOLEAN", 6) (List.mem_of_getElem? (i := 6) rfl)).ext f35.2) (hb hby own_d_method_4_code_155) rfl ?_
                    intro T82 X82 e82
                    exact own_retAH X82 hx hZ e82 HH32 hEL hlocks hret rfl rfl (hb hby own_d_method_4_code_158) (by decide) (by decide) ⟨congrArg some (by simp only [own_exp, if_neg hc44_31, if_neg hc73_37, if_neg hc82_38, if_neg hc92_39, if_neg hc110_40, if_neg hc120_41, if_neg hc137_42, if_neg hc142_44, if_pos hc152_45]), N36, by rw [e82]; exact K33⟩
                · refine own_getS X36 hx hZ hown (host := "") (Or.inl (hw _ (List.mem_of_getElem? (i := 89) rfl))) Via.refl hh36 ((HS ("DECIMAL", 5) (List.mem_of_getElem? (i := 5) rfl)).ext f35.2) (hb hby own_d_method_4_code_145) rfl ?_
                  intro T83 X83 e83
                  exact own_retAH X83 hx hZ e83 HH32 hEL hlocks hret rfl rfl (hb hby own_d_method_4_code_148) (by decide) (by decide) ⟨congrArg some (by simp only [own_exp, if_neg hc44_31, if_neg hc73_37, if_neg hc82_38, if_neg hc92_39, if_neg hc110_40, if_neg hc120_41, if_neg hc137_42, if_pos hc142_44]), N36, by rw [e83]; exact K33⟩
            · refine own_iloadN X36 hx (hb hby own_d_method_4_code_123) rfl rfl ?_
              refine own_if_eq X36 hx (hb hby own_d_method_4_code_124) (by decide) rfl rfl (fun hc124_84 => ?_) (fun hc124_84 => ?_)
              · refine own_getS X36 hx hZ hown (host := "") (Or.inl (hw _ (List.mem_of_getElem? (i := 67) rfl))) Via.refl hh36 ((HS ("FLOAT64", 4) (List.mem_of_getElem? (i := 4) rfl)).ext f35.2) (hb hby own_d_method_4_code_131) rfl ?_
                intro T85 X85 e85
                exact own_retAH X85 hx hZ e85 HH32 hEL hlocks hret rfl rfl (hb hby own_d_method_4_code_134) (by decide) (by decide) ⟨congrArg some (by simp only [own_exp, if_neg hc44_31, if_neg hc73_37, if_neg hc82_38, if_neg hc92_39, if_neg hc110_40, if_pos hc120_41, if_pos hc124_84]), N36, by rw [e85]; exact K33⟩
              · refine own_aconst_null X36 hx (hb hby own_d_method_4_code_127) rfl ?_
                refine own_goto X36 hx (hb hby own_d_method_4_code_128) (by decide) rfl ?_
                exact own_retAH X36 hx hZ hh36 HH32 hEL hlocks hret rfl rfl (hb hby own_d_method_4_code_134) (by decide) (by decide) ⟨congrArg some (by simp only [own_exp, if_neg hc44_31, if_neg hc73_37, if_neg hc82_38, if_neg hc92_39, if_neg hc110_40, if_pos hc120_41, if_neg hc124_84]), N36, by rw [hh36]; exact K33⟩
          · refine own_getS X36 hx hZ hown (host := "") (Or.inl (hw _ (List.mem_of_getElem? (i := 92) rfl))) Via.refl hh36 ((HS ("FLOAT32", 3) (List.mem_of_getElem? (i := 3) rfl)).ext f35.2) (hb hby own_d_method_4_code_113) rfl ?_
            intro T86 X86 e86
            exact own_retAH X86 hx hZ e86 HH32 hEL hlocks hret rfl rfl (hb hby own_d_method_4_code_116) (by decide) (by decide) ⟨congrArg some (by simp only [own_exp, if_neg hc44_31, if_neg hc73_37, if_neg hc82_38, if_neg hc92_39, if_pos hc110_40]), N36, by rw [e86]; exact K33⟩
        · refine own_iloadN X36 hx (hb hby own_d_method_4_code_95) rfl rfl ?_
          refine own_if_eq X36 hx (hb hby own_d_method_4_code_96) (by decide) rfl rfl (fun hc96_87 => ?_) (fun hc96_87 => ?_)
          · refine own_getS X36 hx hZ hown (host := "") (Or.inl (hw _ (List.mem_of_getElem? (i := 107) rfl))) Via.refl hh36 ((HS ("INT64", 2) (List.mem_of_getElem? (i := 2) rfl)).ext f35.2) (hb hby own_d_method_4_code_103) rfl ?_
            intro T88 X88 e88
            exact own_retAH X88 hx hZ e88 HH32 hEL hlocks hret rfl rfl (hb hby own_d_method_4_code_106) (by decide) (by decide) ⟨congrArg some (by simp only [own_exp, if_neg hc44_31, if_neg hc73_37, if_neg hc82_38, if_pos hc92_39, if_pos hc96_87]), N36, by rw [e88]; exact K33⟩
          · refine own_aconst_null X36 hx (hb hby own_d_method_4_code_99) rfl ?_
            refine own_goto X36 hx (hb hby own_d_method_4_code_100) (by decide) rfl ?_
            exact own_retAH X36 hx hZ hh36 HH32 hEL hlocks hret rfl rfl (hb hby own_d_method_4_code_106) (by decide) (by decide) ⟨congrArg some (by simp only [own_exp, if_neg hc44_31, if_neg hc73_37, if_neg hc82_38, if_pos hc92_39, if_neg hc96_87]), N36, by rw [hh36]; exact K33⟩
      · refine own_getS X36 hx hZ hown (host := "") (Or.inl (hw _ (List.mem_of_getElem? (i := 111) rfl))) Via.refl hh36 ((HS ("INT32", 1) (List.mem_of_getElem? (i := 1) rfl)).ext f35.2) (hb hby own_d_method_4_code_85) rfl ?_
        intro T89 X89 e89
        exact own_retAH X89 hx hZ e89 HH32 hEL hlocks hret rfl rfl (hb hby own_d_method_4_code_88) (by decide) (by decide) ⟨congrArg some (by simp only [own_exp, if_neg hc44_31, if_neg hc73_37, if_pos hc82_38]), N36, by rw [e89]; exact K33⟩
    · refine own_getS X36 hx hZ hown (host := "") (Or.inl (hw _ (List.mem_of_getElem? (i := 101) rfl))) Via.refl hh36 ((HS ("INT16", 0) (List.mem_of_getElem? (i := 0) rfl)).ext f35.2) (hb hby own_d_method_4_code_76) rfl ?_
      intro T90 X90 e90
      exact own_retAH X90 hx hZ e90 HH32 hEL hlocks hret rfl rfl (hb hby own_d_method_4_code_79) (by decide) (by decide) ⟨congrArg some (by simp only [own_exp, if_neg hc44_31, if_pos hc73_37]), N36, by rw [e90]; exact K33⟩
  · refine own_ldcS X30 hx hZ hown (hw _ (List.mem_of_getElem? (i := 35) rfl)) hwS hh30 HH26 hEL (List.mem_of_getElem? (i := 14) rfl) (vs := ((([106, 115, 111, 110, 98] : List Int32).map StrChars.lo8).map Value.int)) (z := (5 : Int32)) (by decide +kernel) (by decide) (by decide) (hb hby own_d_method_4_code_47) 20 (by decide) (by decide) (by decide) (by decide) rfl ?_
    intro ls91 T91 h91 lt91 k91 X91 e91 E91 hZ hown HH91 A91 Ex91 Fc91 Fv91 V91 ne91
    have K92 := K27.ext E91
    refine own_aloadN X91 hx (hb hby own_d_method_4_code_49) rfl SN.isref rfl ?_
    have f93 := (f28.ext E91)
    have f94 := (f29.ext E91)
    refine own_virtualB X91 hx hZ (y := (⟨"java/lang/String", "equals", "(Ljava/lang/Object;)Z"⟩ : MethodName)) (z := (⟨"java/lang/String", "equals", "(Ljava/lang/Object;)Z"⟩ : MethodName)) hown (hw _ (List.mem_of_getElem? (i := 17) rfl)) (hw _ (List.mem_of_getElem? (i := 18) rfl)) (notFace_of_selects (args := #[]) (mvT hZ (hw _ (List.mem_of_getElem? (i := 20) rfl)))) (hw _ (List.mem_of_getElem? (i := 20) rfl)) (hw _ (List.mem_of_getElem? (i := 19) rfl)) (by decide) e91 (W := 0) (ce := 0) (sl := 0) (by decide) (by decide) [nv] [] (by rw [hml]; rfl) Ex91 (fun v h' L => v = some (.int (q ([106, 115, 111, 110, 98] : List Int32))) ∧ L = [] ∧ h' = h91) (own_eqSN (W := 0) hZ hw (cs := ([106, 115, 111, 110, 98] : List Int32)) ⟨_, _, _, _, _, Ex91, Fv91, Fc91, V91, (StrChars.Road.codOf (cs := [106, 115, 111, 110, 98]) (n := 5) rfl (by decide)), (by decide), (Nat.le_of_ble_eq_true rfl)⟩ f93 (SC.ext f94.2) hzc (by decide) (by decide)) own_pd3 rfl rfl rfl (hb hby own_d_method_4_code_50) rfl ?_
    intro v95 T95 L95 X95 hQ95
    obtain ⟨rfl, rfl, hh95⟩ := hQ95
    have N95 := Fr.app N30 (Fr.nil n0)
    show own_Ends p e below _ (T95.setTop (mkF m 53 #[.val (.int t1), .val nv, .val (.int (q ([111, 105, 100] : List Int32))), .val (.int (q ([109, 111, 110, 101, 121] : List Int32))), .val (.int (q ([98, 111, 111, 108] : List Int32))), .val (.int (q ([116, 105, 109, 101, 116, 122] : List Int32))), .val (.int (q ([116, 105, 109, 101, 115, 116, 97, 109, 112, 116, 122] : List Int32))), .unset, .unset] [(.int (q ([106, 115, 111, 110, 98] : List Int32)))]))
    refine own_if_eq X95 hx (hb hby own_d_method_4_code_53) (by decide) rfl rfl (fun hc53_96 => ?_) (fun hc53_96 => ?_)
    · refine own_iconst X95 hx (0 : Int32) (hb hby own_d_method_4_code_60) (by decide) rfl ?_
      refine own_istore X95 hx #[.val (.int t1), .val nv, .val (.int (q ([111, 105, 100] : List Int32))), .val (.int (q ([109, 111, 110, 101, 121] : List Int32))), .val (.int (q ([98, 111, 111, 108] : List Int32))), .val (.int (q ([116, 105, 109, 101, 116, 122] : List Int32))), .val (.int (q ([116, 105, 109, 101, 115, 116, 97, 109, 112, 116, 122] : List Int32))), .val (.int (0 : Int32)), .unset] (hb hby own_d_method_4_code_61) rfl rfl ?_
      refine own_ldcS X95 hx hZ hown (hw _ (List.mem_of_getElem? (i := 36) rfl)) hwS hh95 HH91 hEL (List.mem_of_getElem? (i := 15) rfl) (vs := ((([117, 117, 105, 100] : List Int32).map StrChars.lo8).map Value.int)) (z := (4 : Int32)) (by decide +kernel) (by decide) (by decide) (hb hby own_d_method_4_code_63) 16 (by decide) (by decide) (by decide) (by decide) rfl ?_
      intro ls97 T97 h97 lt97 k97 X97 e97 E97 hZ hown HH97 A97 Ex97 Fc97 Fv97 V97 ne97
      have K98 := K92.ext E97
      refine own_aloadN X97 hx (hb hby own_d_method_4_code_65) rfl SN.isref rfl ?_
      have f99 := (f93.ext E97)
      have f100 := (f94.ext E97)
      refine own_virtualB X97 hx hZ (y := (⟨"java/lang/String", "equals", "(Ljava/lang/Object;)Z"⟩ : MethodName)) (z := (⟨"java/lang/String", "equals", "(Ljava/lang/Object;)Z"⟩ : MethodName)) hown (hw _ (List.mem_of_getElem? (i := 17) rfl)) (hw _ (List.mem_of_getElem? (i := 18) rfl)) (notFace_of_selects (args := #[]) (mvT hZ (hw _ (List.mem_of_getElem? (i := 20) rfl)))) (hw _ (List.mem_of_getElem? (i := 20) rfl)) (hw _ (List.mem_of_getElem? (i := 19) rfl)) (by decide) e97 (W := 0) (ce := 0) (sl := 0) (by decide) (by decide) [nv] [] (by rw [hml]; rfl) Ex97 (fun v h' L => v = some (.int (q ([117, 117, 105, 100] : List Int32))) ∧ L = [] ∧ h' = h97) (own_eqSN (W := 0) hZ hw (cs := ([117, 117, 105, 100] : List Int32)) ⟨_, _, _, _, _, Ex97, Fv97, Fc97, V97, (StrChars.Road.codOf (cs := [117, 117, 105, 100]) (n := 4) rfl (by decide)), (by decide), (Nat.le_of_ble_eq_true rfl)⟩ f99 (SC.ext f100.2) hzc (by decide) (by decide)) own_pd3 rfl rfl rfl (hb hby own_d_method_4_code_66) rfl ?_
      intro v101 T101 L101 X101 hQ101
      obtain ⟨rfl, rfl, hh101⟩ := hQ101
      have N101 := Fr.app N95 (Fr.nil n0)
      show own_Ends p e below _ (T101.setTop (mkF m 69 #[.val (.int t1), .val nv, .val (.int (q ([111, 105, 100] : List Int32))), .val (.int (q ([109, 111, 110, 101, 121] : List Int32))), .val (.int (q ([98, 111, 111, 108] : List Int32))), .val (.int (q ([116, 105, 109, 101, 116, 122] : List Int32))), .val (.int (q ([116, 105, 109, 101, 115, 116, 97, 109, 112, 116, 122] : List Int32))), .val (.int (0 : Int32)), .unset] [(.int (q ([117, 117, 105, 100] : List Int32)))]))
      refine own_istore X101 hx #[.val (.int t1), .val nv, .val (.int (q ([111, 105, 100] : List Int32))), .val (.int (q ([109, 111, 110, 101, 121] : List Int32))), .val (.int (q ([98, 111, 111, 108] : List Int32))), .val (.int (q ([116, 105, 109, 101, 116, 122] : List Int32))), .val (.int (q ([116, 105, 109, 101, 115, 116, 97, 109, 112, 116, 122] : List Int32))), .val (.int (0 : Int32)), .val (.int (q ([117, 117, 105, 100] : List Int32)))] (hb hby own_d_method_4_code_69) rfl rfl ?_
      refine own_iloadN X101 hx (hb hby own_d_method_4_code_71) rfl rfl ?_
      refine own_iconst X101 hx (5 : Int32) (hb hby own_d_method_4_code_72) (by decide) rfl ?_
      refine own_icmp_ne X101 hx (hb hby own_d_method_4_code_73) (by decide) rfl rfl (fun hc73_102 => ?_) (fun hc73_102 => ?_)
      · refine own_iloadN X101 hx (hb hby own_d_method_4_code_80) rfl rfl ?_
        refine own_iconst X101 hx (4 : Int32) (hb hby own_d_method_4_code_81) (by decide) rfl ?_
        refine own_icmp_ne X101 hx (hb hby own_d_method_4_code_82) (by decide) rfl rfl (fun hc82_103 => ?_) (fun hc82_103 => ?_)
        · refine own_iloadN X101 hx (hb hby own_d_method_4_code_89) rfl rfl ?_
          refine own_bipush X101 hx (-5 : Int32) (hb hby own_d_method_4_code_90) (by decide) rfl ?_
          refine own_icmp_ne X101 hx (hb hby own_d_method_4_code_92) (by decide) rfl rfl (fun hc92_104 => ?_) (fun hc92_104 => ?_)
          · refine own_iloadN X101 hx (hb hby own_d_method_4_code_107) rfl rfl ?_
            refine own_bipush X101 hx (7 : Int32) (hb hby own_d_method_4_code_108) (by decide) rfl ?_
            refine own_icmp_ne X101 hx (hb hby own_d_method_4_code_110) (by decide) rfl rfl (fun hc110_105 => ?_) (fun hc110_105 => ?_)
            · refine own_iloadN X101 hx (hb hby own_d_method_4_code_117) rfl rfl ?_
              refine own_bipush X101 hx (8 : Int32) (hb hby own_d_method_4_code_118) (by decide) rfl ?_
              refine own_icmp_ne X101 hx (hb hby own_d_method_4_code_120) (by decide) rfl rfl (fun hc120_106 => ?_) (fun hc120_106 => ?_)
              · refine own_iloadN X101 hx (hb hby own_d_method_4_code_135) rfl rfl ?_
                refine own_iconst X101 hx (2 : Int32) (hb hby own_d_method_4_code_136) (by decide) rfl ?_
                refine own_icmp_eq X101 hx (hb hby own_d_method_4_code_137) (by decide) rfl rfl (fun hc137_107 => ?_) (fun hc137_107 => ?_)
                · refine own_getS X101 hx hZ hown (host := "") (Or.inl (hw _ (List.mem_of_getElem? (i := 89) rfl))) Via.refl hh101 ((HS ("DECIMAL", 5) (List.mem_of_getElem? (i := 5) rfl)).ext f100.2) (hb hby own_d_method_4_code_145) rfl ?_
                  intro T108 X108 e108
                  exact own_retAH X108 hx hZ e108 HH97 hEL hlocks hret rfl rfl (hb hby own_d_method_4_code_148) (by decide) (by decide) ⟨congrArg some (by simp only [own_exp, if_pos hc44_31, if_pos hc53_96, if_neg hc73_102, if_neg hc82_103, if_neg hc92_104, if_neg hc110_105, if_neg hc120_106, if_pos hc137_107]), N101, by rw [e108]; exact K98⟩
                · refine own_iloadN X101 hx (hb hby own_d_method_4_code_140) rfl rfl ?_
                  refine own_iconst X101 hx (3 : Int32) (hb hby own_d_method_4_code_141) (by decide) rfl ?_
                  refine own_icmp_ne X101 hx (hb hby own_d_method_4_code_142) (by decide) rfl rfl (fun hc142_109 => ?_) (fun hc142_109 => ?_)
                  · refine own_iloadN X101 hx (hb hby own_d_method_4_code_149) rfl rfl ?_
                    refine own_bipush X101 hx (16 : Int32) (hb hby own_d_method_4_code_150) (by decide) rfl ?_
                    refine own_icmp_ne X101 hx (hb hby own_d_method_4_code_152) (by decide) rfl rfl (fun hc152_110 => ?_) (fun hc152_110 => ?_)
                    · refine own_iloadN X101 hx (hb hby own_d_method_4_code_159) rfl rfl ?_
                      refine own_bipush X101 hx (-7 : Int32) (hb hby own_d_method_4_code_160) (by decide) rfl ?_
                      refine own_icmp_ne X101 hx (hb hby own_d_method_4_code_162) (by decide) rfl rfl (fun hc162_111 => ?_) (fun hc162_111 => ?_)
                      · refine own_iloadN X101 hx (hb hby own_d_method_4_code_178) rfl rfl ?_
                        refine own_iconst X101 hx (1 : Int32) (hb hby own_d_method_4_code_179) (by decide) rfl ?_
                        refine own_icmp_eq X101 hx (hb hby own_d_method_4_code_180) (by decide) rfl rfl (fun hc180_112 => ?_) (fun hc180_112 => ?_)
                        · refine own_getS X101 hx hZ hown (host := "") (Or.inl (hw _ (List.mem_of_getElem? (i := 104) rfl))) Via.refl hh101 ((HS ("UTF8", 7) (List.mem_of_getElem? (i := 7) rfl)).ext f100.2) (hb hby own_d_method_4_code_212) rfl ?_
                          intro T113 X113 e113
                          exact own_retAH X113 hx hZ e113 HH97 hEL hlocks hret rfl rfl (hb hby own_d_method_4_code_215) (by decide) (by decide) ⟨congrArg some (by simp only [own_exp, if_pos hc44_31, if_pos hc53_96, if_neg hc73_102, if_neg hc82_103, if_neg hc92_104, if_neg hc110_105, if_neg hc120_106, if_neg hc137_107, if_neg hc142_109, if_neg hc152_110, if_neg hc162_111, if_pos hc180_112]), N101, by rw [e113]; exact K98⟩
                        · refine own_iloadN X101 hx (hb hby own_d_method_4_code_183) rfl rfl ?_
                          refine own_bipush X101 hx (12 : Int32) (hb hby own_d_method_4_code_184) (by decide) rfl ?_
                          refine own_icmp_eq X101 hx (hb hby own_d_method_4_code_186) (by decide) rfl rfl (fun hc186_114 => ?_) (fun hc186_114 => ?_)
                          · refine own_getS X101 hx hZ hown (host := "") (Or.inl (hw _ (List.mem_of_getElem? (i := 104) rfl))) Via.refl hh101 ((HS ("UTF8", 7) (List.mem_of_getElem? (i := 7) rfl)).ext f100.2) (hb hby own_d_method_4_code_212) rfl ?_
                            intro T115 X115 e115
                            exact own_retAH X115 hx hZ e115 HH97 hEL hlocks hret rfl rfl (hb hby own_d_method_4_code_215) (by decide) (by decide) ⟨congrArg some (by simp only [own_exp, if_pos hc44_31, if_pos hc53_96, if_neg hc73_102, if_neg hc82_103, if_neg hc92_104, if_neg hc110_105, if_neg hc120_106, if_neg hc137_107, if_neg hc142_109, if_neg hc152_110, if_neg hc162_111, if_neg hc180_112, if_pos hc186_114]), N101, by rw [e115]; exact K98⟩
                          · refine own_iloadN X101 hx (hb hby own_d_method_4_code_189) rfl rfl ?_
                            refine own_iconst X101 hx (-1 : Int32) (hb hby own_d_method_4_code_190) (by decide) rfl ?_
                            refine own_icmp_eq X101 hx (hb hby own_d_method_4_code_191) (by decide) rfl rfl (fun hc191_116 => ?_) (fun hc191_116 => ?_)
                            · refine own_getS X101 hx hZ hown (host := "") (Or.inl (hw _ (List.mem_of_getElem? (i := 104) rfl))) Via.refl hh101 ((HS ("UTF8", 7) (List.mem_of_getElem? (i := 7) rfl)).ext f100.2) (hb hby own_d_method_4_code_212) rfl ?_
                              intro T117 X117 e117
                              exact own_retAH X117 hx hZ e117 HH97 hEL hlocks hret rfl rfl (hb hby own_d_method_4_code_215) (by decide) (by decide) ⟨congrArg some (by simp only [own_exp, if_pos hc44_31, if_pos hc53_96, if_neg hc73_102, if_neg hc82_103, if_neg hc92_104, if_neg hc110_105, if_neg hc120_106, if_neg hc137_107, if_neg hc142_109, if_neg hc152_110, if_neg hc162_111, if_neg hc180_112, if_neg hc186_114, if_pos hc191_116]), N101, by rw [e117]; exact K98⟩
                            · refine own_iloadN X101 hx (hb hby own_d_method_4_code_194) rfl rfl ?_
                              refine own_bipush X101 hx (-15 : Int32) (hb hby own_d_method_4_code_195) (by decide) rfl ?_
                              refine own_icmp_eq X101 hx (hb hby own_d_method_4_code_197) (by decide) rfl rfl (fun hc197_118 => ?_) (fun hc197_118 => ?_)
                              · refine own_getS X101 hx hZ hown (host := "") (Or.inl (hw _ (List.mem_of_getElem? (i := 104) rfl))) Via.refl hh101 ((HS ("UTF8", 7) (List.mem_of_getElem? (i := 7) rfl)).ext f100.2) (hb hby own_d_method_4_code_212) rfl ?_
                                intro T119 X119 e119
                                exact own_retAH X119 hx hZ e119 HH97 hEL hlocks hret rfl rfl (hb hby own_d_method_4_code_215) (by decide) (by decide) ⟨congrArg some (by simp only [own_exp, if_pos hc44_31, if_pos hc53_96, if_neg hc73_102, if_neg hc82_103, if_neg hc92_104, if_neg hc110_105, if_neg hc120_106, if_neg hc137_107, if_neg hc142_109, if_neg hc152_110, if_neg hc162_111, if_neg hc180_112, if_neg hc186_114, if_neg hc191_116, if_pos hc197_118]), N101, by rw [e119]; exact K98⟩
                              · refine own_iloadN X101 hx (hb hby own_d_method_4_code_200) rfl rfl ?_
                                refine own_bipush X101 hx (-9 : Int32) (hb hby own_d_method_4_code_201) (by decide) rfl ?_
                                refine own_icmp_eq X101 hx (hb hby own_d_method_4_code_203) (by decide) rfl rfl (fun hc203_120 => ?_) (fun hc203_120 => ?_)
                                · refine own_getS X101 hx hZ hown (host := "") (Or.inl (hw _ (List.mem_of_getElem? (i := 104) rfl))) Via.refl hh101 ((HS ("UTF8", 7) (List.mem_of_getElem? (i := 7) rfl)).ext f100.2) (hb hby own_d_method_4_code_212) rfl ?_
                                  intro T121 X121 e121
                                  exact own_retAH X121 hx hZ e121 HH97 hEL hlocks hret rfl rfl (hb hby own_d_method_4_code_215) (by decide) (by decide) ⟨congrArg some (by simp only [own_exp, if_pos hc44_31, if_pos hc53_96, if_neg hc73_102, if_neg hc82_103, if_neg hc92_104, if_neg hc110_105, if_neg hc120_106, if_neg hc137_107, if_neg hc142_109, if_neg hc152_110, if_neg hc162_111, if_neg hc180_112, if_neg hc186_114, if_neg hc191_116, if_neg hc197_118, if_pos hc203_120]), N101, by rw [e121]; exact K98⟩
                                · refine own_iloadN X101 hx (hb hby own_d_method_4_code_206) rfl rfl ?_
                                  refine own_bipush X101 hx (-16 : Int32) (hb hby own_d_method_4_code_207) (by decide) rfl ?_
                                  refine own_icmp_ne X101 hx (hb hby own_d_method_4_code_209) (by decide) rfl rfl (fun hc209_122 => ?_) (fun hc209_122 => ?_)
                                  · refine own_iloadN X101 hx (hb hby own_d_method_4_code_216) rfl rfl ?_
                                    refine own_bipush X101 hx (91 : Int32) (hb hby own_d_method_4_code_217) (by decide) rfl ?_
                                    refine own_icmp_ne X101 hx (hb hby own_d_method_4_code_219) (by decide) rfl rfl (fun hc219_123 => ?_) (fun hc219_123 => ?_)
                                    · refine own_iloadN X101 hx (hb hby own_d_method_4_code_226) rfl rfl ?_
                                      refine own_bipush X101 hx (92 : Int32) (hb hby own_d_method_4_code_227) (by decide) rfl ?_
                                      refine own_icmp_ne X101 hx (hb hby own_d_method_4_code_229) (by decide) rfl rfl (fun hc229_124 => ?_) (fun hc229_124 => ?_)
                                      · refine own_iloadN X101 hx (hb hby own_d_method_4_code_245) rfl rfl ?_
                                        refine own_bipush X101 hx (93 : Int32) (hb hby own_d_method_4_code_246) (by decide) rfl ?_
                                        refine own_icmp_ne X101 hx (hb hby own_d_method_4_code_248) (by decide) rfl rfl (fun hc248_125 => ?_) (fun hc248_125 => ?_)
                                        · refine own_iloadN X101 hx (hb hby own_d_method_4_code_266) rfl rfl ?_
                                          refine own_sipush X101 hx (2014 : Int32) (hb hby own_d_method_4_code_267) (by decide) rfl ?_
                                          refine own_icmp_ne X101 hx (hb hby own_d_method_4_code_270) (by decide) rfl rfl (fun hc270_126 => ?_) (fun hc270_126 => ?_)
                                          · refine own_iloadN X101 hx (hb hby own_d_method_4_code_277) rfl rfl ?_
                                            refine own_bipush X101 hx (-2 : Int32) (hb hby own_d_method_4_code_278) (by decide) rfl ?_
                                            refine own_icmp_eq X101 hx (hb hby own_d_method_4_code_280) (by decide) rfl rfl (fun hc280_127 => ?_) (fun hc280_127 => ?_)
                                            · refine own_getS X101 hx hZ hown (host := "") (Or.inl (hw _ (List.mem_of_getElem? (i := 114) rfl))) Via.refl hh101 ((HS ("BYTES", 12) (List.mem_of_getElem? (i := 12) rfl)).ext f100.2) (hb hby own_d_method_4_code_302) rfl ?_
                                              intro T128 X128 e128
                                              exact own_retAH X128 hx hZ e128 HH97 hEL hlocks hret rfl rfl (hb hby own_d_method_4_code_305) (by decide) (by decide) ⟨congrArg some (by simp only [own_exp, if_pos hc44_31, if_pos hc53_96, if_neg hc73_102, if_neg hc82_103, if_neg hc92_104, if_neg hc110_105, if_neg hc120_106, if_neg hc137_107, if_neg hc142_109, if_neg hc152_110, if_neg hc162_111, if_neg hc180_112, if_neg hc186_114, if_neg hc191_116, if_neg hc197_118, if_neg hc203_120, if_neg hc209_122, if_neg hc219_123, if_neg hc229_124, if_neg hc248_125, if_neg hc270_126, if_pos hc280_127]), N101, by rw [e128]; exact K98⟩
                                            · refine own_iloadN X101 hx (hb hby own_d_method_4_code_283) rfl rfl ?_
                                              refine own_bipush X101 hx (-3 : Int32) (hb hby own_d_method_4_code_284) (by decide) rfl ?_
                                              refine own_icmp_eq X101 hx (hb hby own_d_method_4_code_286) (by decide) rfl rfl (fun hc286_129 => ?_) (fun hc286_129 => ?_)
                                              · refine own_getS X101 hx hZ hown (host := "") (Or.inl (hw _ (List.mem_of_getElem? (i := 114) rfl))) Via.refl hh101 ((HS ("BYTES", 12) (List.mem_of_getElem? (i := 12) rfl)).ext f100.2) (hb hby own_d_method_4_code_302) rfl ?_
                                                intro T130 X130 e130
                                                exact own_retAH X130 hx hZ e130 HH97 hEL hlocks hret rfl rfl (hb hby own_d_method_4_code_305) (by decide) (by decide) ⟨congrArg some (by simp only [own_exp, if_pos hc44_31, if_pos hc53_96, if_neg hc73_102, if_neg hc82_103, if_neg hc92_104, if_neg hc110_105, if_neg hc120_106, if_neg hc137_107, if_neg hc142_109, if_neg hc152_110, if_neg hc162_111, if_neg hc180_112, if_neg hc186_114, if_neg hc191_116, if_neg hc197_118, if_neg hc203_120, if_neg hc209_122, if_neg hc219_123, if_neg hc229_124, if_neg hc248_125, if_neg hc270_126, if_neg hc280_127, if_pos hc286_129]), N101, by rw [e130]; exact K98⟩
                                              · refine own_iloadN X101 hx (hb hby own_d_method_4_code_289) rfl rfl ?_
                                                refine own_bipush X101 hx (-4 : Int32) (hb hby own_d_method_4_code_290) (by decide) rfl ?_
                                                refine own_icmp_eq X101 hx (hb hby own_d_method_4_code_292) (by decide) rfl rfl (fun hc292_131 => ?_) (fun hc292_131 => ?_)
                                                · refine own_getS X101 hx hZ hown (host := "") (Or.inl (hw _ (List.mem_of_getElem? (i := 114) rfl))) Via.refl hh101 ((HS ("BYTES", 12) (List.mem_of_getElem? (i := 12) rfl)).ext f100.2) (hb hby own_d_method_4_code_302) rfl ?_
                                                  intro T132 X132 e132
                                                  exact own_retAH X132 hx hZ e132 HH97 hEL hlocks hret rfl rfl (hb hby own_d_method_4_code_305) (by decide) (by decide) ⟨congrArg some (by simp only [own_exp, if_pos hc44_31, if_pos hc53_96, if_neg hc73_102, if_neg hc82_103, if_neg hc92_104, if_neg hc110_105, if_neg hc120_106, if_neg hc137_107, if_neg hc142_109, if_neg hc152_110, if_neg hc162_111, if_neg hc180_112, if_neg hc186_114, if_neg hc191_116, if_neg hc197_118, if_neg hc203_120, if_neg hc209_122, if_neg hc219_123, if_neg hc229_124, if_neg hc248_125, if_neg hc270_126, if_neg hc280_127, if_neg hc286_129, if_pos hc292_131]), N101, by rw [e132]; exact K98⟩
                                                · refine own_iloadN X101 hx (hb hby own_d_method_4_code_295) rfl rfl ?_
                                                  refine own_sipush X101 hx (2004 : Int32) (hb hby own_d_method_4_code_296) (by decide) rfl ?_
                                                  refine own_icmp_ne X101 hx (hb hby own_d_method_4_code_299) (by decide) rfl rfl (fun hc299_133 => ?_) (fun hc299_133 => ?_)
                                                  · refine own_iloadN X101 hx (hb hby own_d_method_4_code_306) rfl rfl ?_
                                                    refine own_sipush X101 hx (1111 : Int32) (hb hby own_d_method_4_code_307) (by decide) rfl ?_
                                                    refine own_icmp_ne X101 hx (hb hby own_d_method_4_code_310) (by decide) rfl rfl (fun hc310_134 => ?_) (fun hc310_134 => ?_)
                                                    · refine own_aconst_null X101 hx (hb hby own_d_method_4_code_333) rfl ?_
                                                      exact own_retAH X101 hx hZ hh101 HH97 hEL hlocks hret rfl rfl (hb hby own_d_method_4_code_334) (by decide) (by decide) ⟨congrArg some (by simp only [own_exp, if_pos hc44_31, if_pos hc53_96, if_neg hc73_102, if_neg hc82_103, if_neg hc92_104, if_neg hc110_105, if_neg hc120_106, if_neg hc137_107, if_neg hc142_109, if_neg hc152_110, if_neg hc162_111, if_neg hc180_112, if_neg hc186_114, if_neg hc191_116, if_neg hc197_118, if_neg hc203_120, if_neg hc209_122, if_neg hc219_123, if_neg hc229_124, if_neg hc248_125, if_neg hc270_126, if_neg hc280_127, if_neg hc286_129, if_neg hc292_131, if_neg hc299_133, if_neg hc310_134]), N101, by rw [hh101]; exact K98⟩
                                                    · refine own_iload X101 hx (hb hby own_d_method_4_code_313) rfl rfl ?_
                                                      refine own_ifT X101 hx (hb hby own_d_method_4_code_315) (by decide) rfl (by decide) ?_
                                                      refine own_iload X101 hx (hb hby own_d_method_4_code_322) rfl rfl ?_
                                                      refine own_if_eq X101 hx (hb hby own_d_method_4_code_324) (by decide) rfl rfl (fun hc324_135 => ?_) (fun hc324_135 => ?_)
                                                      · refine own_aconst_null X101 hx (hb hby own_d_method_4_code_331) rfl ?_
                                                        exact own_retAH X101 hx hZ hh101 HH97 hEL hlocks hret rfl rfl (hb hby own_d_method_4_code_332) (by decide) (by decide) ⟨congrArg some (by simp only [own_exp, if_pos hc44_31, if_pos hc53_96, if_neg hc73_102, if_neg hc82_103, if_neg hc92_104, if_neg hc110_105, if_neg hc120_106, if_neg hc137_107, if_neg hc142_109, if_neg hc152_110, if_neg hc162_111, if_neg hc180_112, if_neg hc186_114, if_neg hc191_116, if_neg hc197_118, if_neg hc203_120, if_neg hc209_122, if_neg hc219_123, if_neg hc229_124, if_neg hc248_125, if_neg hc270_126, if_neg hc280_127, if_neg hc286_129, if_neg hc292_131, if_neg hc299_133, if_pos hc310_134, if_pos hc324_135]), N101, by rw [hh101]; exact K98⟩
                                                      · refine own_getS X101 hx hZ hown (host := "") (Or.inl (hw _ (List.mem_of_getElem? (i := 135) rfl))) Via.refl hh101 ((HS ("UUID", 13) (List.mem_of_getElem? (i := 13) rfl)).ext f100.2) (hb hby own_d_method_4_code_327) rfl ?_
                                                        intro T136 X136 e136
                                                        exact own_retAH X136 hx hZ e136 HH97 hEL hlocks hret rfl rfl (hb hby own_d_method_4_code_330) (by decide) (by decide) ⟨congrArg some (by simp only [own_exp, if_pos hc44_31, if_pos hc53_96, if_neg hc73_102, if_neg hc82_103, if_neg hc92_104, if_neg hc110_105, if_neg hc120_106, if_neg hc137_107, if_neg hc142_109, if_neg hc152_110, if_neg hc162_111, if_neg hc180_112, if_neg hc186_114, if_neg hc191_116, if_neg hc197_118, if_neg hc203_120, if_neg hc209_122, if_neg hc219_123, if_neg hc229_124, if_neg hc248_125, if_neg hc270_126, if_neg hc280_127, if_neg hc286_129, if_neg hc292_131, if_neg hc299_133, if_pos hc310_134, if_neg hc324_135]), N101, by rw [e136]; exact K98⟩
                                                  · refine own_getS X101 hx hZ hown (host := "") (Or.inl (hw _ (List.mem_of_getElem? (i := 114) rfl))) Via.refl hh101 ((HS ("BYTES", 12) (List.mem_of_getElem? (i := 12) rfl)).ext f100.2) (hb hby own_d_method_4_code_302) rfl ?_
                                                    intro T137 X137 e137
                                                    exact own_retAH X137 hx hZ e137 HH97 hEL hlocks hret rfl rfl (hb hby own_d_method_4_code_305) (by decide) (by decide) ⟨congrArg some (by simp only [own_exp, if_pos hc44_31, if_pos hc53_96, if_neg hc73_102, if_neg hc82_103, if_neg hc92_104, if_neg hc110_105, if_neg hc120_106, if_neg hc137_107, if_neg hc142_109, if_neg hc152_110, if_neg hc162_111, if_neg hc180_112, if_neg hc186_114, if_neg hc191_116, if_neg hc197_118, if_neg hc203_120, if_neg hc209_122, if_neg hc219_123, if_neg hc229_124, if_neg hc248_125, if_neg hc270_126, if_neg hc280_127, if_neg hc286_129, if_neg hc292_131, if_pos hc299_133]), N101, by rw [e137]; exact K98⟩
                                          · refine own_getS X101 hx hZ hown (host := "") (Or.inl (hw _ (List.mem_of_getElem? (i := 123) rfl))) Via.refl hh101 ((HS ("INSTANT", 11) (List.mem_of_getElem? (i := 11) rfl)).ext f100.2) (hb hby own_d_method_4_code_273) rfl ?_
                                            intro T138 X138 e138
                                            exact own_retAH X138 hx hZ e138 HH97 hEL hlocks hret rfl rfl (hb hby own_d_method_4_code_276) (by decide) (by decide) ⟨congrArg some (by simp only [own_exp, if_pos hc44_31, if_pos hc53_96, if_neg hc73_102, if_neg hc82_103, if_neg hc92_104, if_neg hc110_105, if_neg hc120_106, if_neg hc137_107, if_neg hc142_109, if_neg hc152_110, if_neg hc162_111, if_neg hc180_112, if_neg hc186_114, if_neg hc191_116, if_neg hc197_118, if_neg hc203_120, if_neg hc209_122, if_neg hc219_123, if_neg hc229_124, if_neg hc248_125, if_pos hc270_126]), N101, by rw [e138]; exact K98⟩
                                        · refine own_iload X101 hx (hb hby own_d_method_4_code_251) rfl rfl ?_
                                          refine own_if_eq X101 hx (hb hby own_d_method_4_code_253) (by decide) rfl rfl (fun hc253_139 => ?_) (fun hc253_139 => ?_)
                                          · refine own_getS X101 hx hZ hown (host := "") (Or.inl (hw _ (List.mem_of_getElem? (i := 130) rfl))) Via.refl hh101 ((HS ("TIMESTAMP", 10) (List.mem_of_getElem? (i := 10) rfl)).ext f100.2) (hb hby own_d_method_4_code_262) rfl ?_
                                            intro T140 X140 e140
                                            exact own_retAH X140 hx hZ e140 HH97 hEL hlocks hret rfl rfl (hb hby own_d_method_4_code_265) (by decide) (by decide) ⟨congrArg some (by simp only [own_exp, if_pos hc44_31, if_pos hc53_96, if_neg hc73_102, if_neg hc82_103, if_neg hc92_104, if_neg hc110_105, if_neg hc120_106, if_neg hc137_107, if_neg hc142_109, if_neg hc152_110, if_neg hc162_111, if_neg hc180_112, if_neg hc186_114, if_neg hc191_116, if_neg hc197_118, if_neg hc203_120, if_neg hc209_122, if_neg hc219_123, if_neg hc229_124, if_pos hc248_125, if_pos hc253_139]), N101, by rw [e140]; exact K98⟩
                                          · refine own_getS X101 hx hZ hown (host := "") (Or.inl (hw _ (List.mem_of_getElem? (i := 123) rfl))) Via.refl hh101 ((HS ("INSTANT", 11) (List.mem_of_getElem? (i := 11) rfl)).ext f100.2) (hb hby own_d_method_4_code_256) rfl ?_
                                            intro T141 X141 e141
                                            refine own_goto X141 hx (hb hby own_d_method_4_code_259) (by decide) rfl ?_
                                            exact own_retAH X141 hx hZ e141 HH97 hEL hlocks hret rfl rfl (hb hby own_d_method_4_code_265) (by decide) (by decide) ⟨congrArg some (by simp only [own_exp, if_pos hc44_31, if_pos hc53_96, if_neg hc73_102, if_neg hc82_103, if_neg hc92_104, if_neg hc110_105, if_neg hc120_106, if_neg hc137_107, if_neg hc142_109, if_neg hc152_110, if_neg hc162_111, if_neg hc180_112, if_neg hc186_114, if_neg hc191_116, if_neg hc197_118, if_neg hc203_120, if_neg hc209_122, if_neg hc219_123, if_neg hc229_124, if_pos hc248_125, if_neg hc253_139]), N101, by rw [e141]; exact K98⟩
                                      · refine own_iload X101 hx (hb hby own_d_method_4_code_232) rfl rfl ?_
                                        refine own_if_eq X101 hx (hb hby own_d_method_4_code_234) (by decide) rfl rfl (fun hc234_142 => ?_) (fun hc234_142 => ?_)
                                        · refine own_getS X101 hx hZ hown (host := "") (Or.inl (hw _ (List.mem_of_getElem? (i := 126) rfl))) Via.refl hh101 ((HS ("TIME", 9) (List.mem_of_getElem? (i := 9) rfl)).ext f100.2) (hb hby own_d_method_4_code_241) rfl ?_
                                          intro T143 X143 e143
                                          exact own_retAH X143 hx hZ e143 HH97 hEL hlocks hret rfl rfl (hb hby own_d_method_4_code_244) (by decide) (by decide) ⟨congrArg some (by simp only [own_exp, if_pos hc44_31, if_pos hc53_96, if_neg hc73_102, if_neg hc82_103, if_neg hc92_104, if_neg hc110_105, if_neg hc120_106, if_neg hc137_107, if_neg hc142_109, if_neg hc152_110, if_neg hc162_111, if_neg hc180_112, if_neg hc186_114, if_neg hc191_116, if_neg hc197_118, if_neg hc203_120, if_neg hc209_122, if_neg hc219_123, if_pos hc229_124, if_pos hc234_142]), N101, by rw [e143]; exact K98⟩
                                        · refine own_aconst_null X101 hx (hb hby own_d_method_4_code_237) rfl ?_
                                          refine own_goto X101 hx (hb hby own_d_method_4_code_238) (by decide) rfl ?_
                                          exact own_retAH X101 hx hZ hh101 HH97 hEL hlocks hret rfl rfl (hb hby own_d_method_4_code_244) (by decide) (by decide) ⟨congrArg some (by simp only [own_exp, if_pos hc44_31, if_pos hc53_96, if_neg hc73_102, if_neg hc82_103, if_neg hc92_104, if_neg hc110_105, if_neg hc120_106, if_neg hc137_107, if_neg hc142_109, if_neg hc152_110, if_neg hc162_111, if_neg hc180_112, if_neg hc186_114, if_neg hc191_116, if_neg hc197_118, if_neg hc203_120, if_neg hc209_122, if_neg hc219_123, if_pos hc229_124, if_neg hc234_142]), N101, by rw [hh101]; exact K98⟩
                                    · refine own_getS X101 hx hZ hown (host := "") (Or.inl (hw _ (List.mem_of_getElem? (i := 120) rfl))) Via.refl hh101 ((HS ("DATE", 8) (List.mem_of_getElem? (i := 8) rfl)).ext f100.2) (hb hby own_d_method_4_code_222) rfl ?_
                                      intro T144 X144 e144
                                      exact own_retAH X144 hx hZ e144 HH97 hEL hlocks hret rfl rfl (hb hby own_d_method_4_code_225) (by decide) (by decide) ⟨congrArg some (by simp only [own_exp, if_pos hc44_31, if_pos hc53_96, if_neg hc73_102, if_neg hc82_103, if_neg hc92_104, if_neg hc110_105, if_neg hc120_106, if_neg hc137_107, if_neg hc142_109, if_neg hc152_110, if_neg hc162_111, if_neg hc180_112, if_neg hc186_114, if_neg hc191_116, if_neg hc197_118, if_neg hc203_120, if_neg hc209_122, if_pos hc219_123]), N101, by rw [e144]; exact K98⟩
                                  · refine own_getS X101 hx hZ hown (host := "") (Or.inl (hw _ (List.mem_of_getElem? (i := 104) rfl))) Via.refl hh101 ((HS ("UTF8", 7) (List.mem_of_getElem? (i := 7) rfl)).ext f100.2) (hb hby own_d_method_4_code_212) rfl ?_
                                    intro T145 X145 e145
                                    exact own_retAH X145 hx hZ e145 HH97 hEL hlocks hret rfl rfl (hb hby own_d_method_4_code_215) (by decide) (by decide) ⟨congrArg some (by simp only [own_exp, if_pos hc44_31, if_pos hc53_96, if_neg hc73_102, if_neg hc82_103, if_neg hc92_104, if_neg hc110_105, if_neg hc120_106, if_neg hc137_107, if_neg hc142_109, if_neg hc152_110, if_neg hc162_111, if_neg hc180_112, if_neg hc186_114, if_neg hc191_116, if_neg hc197_118, if_neg hc203_120, if_pos hc209_122]), N101, by rw [e145]; exact K98⟩
                      · refine own_iload X101 hx (hb hby own_d_method_4_code_165) rfl rfl ?_
                        refine own_if_eq X101 hx (hb hby own_d_method_4_code_167) (by decide) rfl rfl (fun hc167_146 => ?_) (fun hc167_146 => ?_)
                        · refine own_aconst_null X101 hx (hb hby own_d_method_4_code_176) rfl ?_
                          exact own_retAH X101 hx hZ hh101 HH97 hEL hlocks hret rfl rfl (hb hby own_d_method_4_code_177) (by decide) (by decide) ⟨congrArg some (by simp only [own_exp, if_pos hc44_31, if_pos hc53_96, if_neg hc73_102, if_neg hc82_103, if_neg hc92_104, if_neg hc110_105, if_neg hc120_106, if_neg hc137_107, if_neg hc142_109, if_neg hc152_110, if_pos hc162_111, if_pos hc167_146]), N101, by rw [hh101]; exact K98⟩
                        · refine own_getS X101 hx hZ hown (host := "") (Or.inl (hw _ (List.mem_of_getElem? (i := 117) rfl))) Via.refl hh101 ((HS ("BOOLEAN", 6) (List.mem_of_getElem? (i := 6) rfl)).ext f100.2) (hb hby own_d_method_4_code_170) rfl ?_
                          intro T147 X147 e147
                          refine own_goto X147 hx (hb hby own_d_method_4_code_173) (by decide) rfl ?_
                          exact own_retAH X147 hx hZ e147 HH97 hEL hlocks hret rfl rfl (hb hby own_d_method_4_code_177) (by decide) (by decide) ⟨congrArg some (by simp only [own_exp, if_pos hc44_31, if_pos hc53_96, if_neg hc73_102, if_neg hc82_103, if_neg hc92_104, if_neg hc110_105, if_neg hc120_106, if_neg hc137_107, if_neg hc142_109, if_neg hc152_110, if_pos hc162_111, if_neg hc167_146]), N101, by rw [e147]; exact K98⟩
                    · refine own_getS X101 hx hZ hown (host := "") (Or.inl (hw _ (List.mem_of_getElem? (i := 117) rfl))) Via.refl hh101 ((HS ("BOOLEAN", 6) (List.mem_of_getElem? (i := 6) rfl)).ext f100.2) (hb hby own_d_method_4_code_155) rfl ?_
                      intro T148 X148 e148
                      exact own_retAH X148 hx hZ e148 HH97 hEL hlocks hret rfl rfl (hb hby own_d_method_4_code_158) (by decide) (by decide) ⟨congrArg some (by simp only [own_exp, if_pos hc44_31, if_pos hc53_96, if_neg hc73_102, if_neg hc82_103, if_neg hc92_104, if_neg hc110_105, if_neg hc120_106, if_neg hc137_107, if_neg hc142_109, if_pos hc152_110]), N101, by rw [e148]; exact K98⟩
                  · refine own_getS X101 hx hZ hown (host := "") (Or.inl (hw _ (List.mem_of_getElem? (i := 89) rfl))) Via.refl hh101 ((HS ("DECIMAL", 5) (List.mem_of_getElem? (i := 5) rfl)).ext f100.2) (hb hby own_d_method_4_code_145) rfl ?_
                    intro T149 X149 e149
                    exact own_retAH X149 hx hZ e149 HH97 hEL hlocks hret rfl rfl (hb hby own_d_method_4_code_148) (by decide) (by decide) ⟨congrArg some (by simp only [own_exp, if_pos hc44_31, if_pos hc53_96, if_neg hc73_102, if_neg hc82_103, if_neg hc92_104, if_neg hc110_105, if_neg hc120_106, if_neg hc137_107, if_pos hc142_109]), N101, by rw [e149]; exact K98⟩
              · refine own_iloadN X101 hx (hb hby own_d_method_4_code_123) rfl rfl ?_
                refine own_if_eq X101 hx (hb hby own_d_method_4_code_124) (by decide) rfl rfl (fun hc124_150 => ?_) (fun hc124_150 => ?_)
                · refine own_getS X101 hx hZ hown (host := "") (Or.inl (hw _ (List.mem_of_getElem? (i := 67) rfl))) Via.refl hh101 ((HS ("FLOAT64", 4) (List.mem_of_getElem? (i := 4) rfl)).ext f100.2) (hb hby own_d_method_4_code_131) rfl ?_
                  intro T151 X151 e151
                  exact own_retAH X151 hx hZ e151 HH97 hEL hlocks hret rfl rfl (hb hby own_d_method_4_code_134) (by decide) (by decide) ⟨congrArg some (by simp only [own_exp, if_pos hc44_31, if_pos hc53_96, if_neg hc73_102, if_neg hc82_103, if_neg hc92_104, if_neg hc110_105, if_pos hc120_106, if_pos hc124_150]), N101, by rw [e151]; exact K98⟩
                · refine own_aconst_null X101 hx (hb hby own_d_method_4_code_127) rfl ?_
                  refine own_goto X101 hx (hb hby own_d_method_4_code_128) (by decide) rfl ?_
                  exact own_retAH X101 hx hZ hh101 HH97 hEL hlocks hret rfl rfl (hb hby own_d_method_4_code_134) (by decide) (by decide) ⟨congrArg some (by simp only [own_exp, if_pos hc44_31, if_pos hc53_96, if_neg hc73_102, if_neg hc82_103, if_neg hc92_104, if_neg hc110_105, if_pos hc120_106, if_neg hc124_150]), N101, by rw [hh101]; exact K98⟩
            · refine own_getS X101 hx hZ hown (host := "") (Or.inl (hw _ (List.mem_of_getElem? (i := 92) rfl))) Via.refl hh101 ((HS ("FLOAT32", 3) (List.mem_of_getElem? (i := 3) rfl)).ext f100.2) (hb hby own_d_method_4_code_113) rfl ?_
              intro T152 X152 e152
              exact own_retAH X152 hx hZ e152 HH97 hEL hlocks hret rfl rfl (hb hby own_d_method_4_code_116) (by decide) (by decide) ⟨congrArg some (by simp only [own_exp, if_pos hc44_31, if_pos hc53_96, if_neg hc73_102, if_neg hc82_103, if_neg hc92_104, if_pos hc110_105]), N101, by rw [e152]; exact K98⟩
          · refine own_iloadN X101 hx (hb hby own_d_method_4_code_95) rfl rfl ?_
            refine own_if_eq X101 hx (hb hby own_d_method_4_code_96) (by decide) rfl rfl (fun hc96_153 => ?_) (fun hc96_153 => ?_)
            · refine own_getS X101 hx hZ hown (host := "") (Or.inl (hw _ (List.mem_of_getElem? (i := 107) rfl))) Via.refl hh101 ((HS ("INT64", 2) (List.mem_of_getElem? (i := 2) rfl)).ext f100.2) (hb hby own_d_method_4_code_103) rfl ?_
              intro T154 X154 e154
              exact own_retAH X154 hx hZ e154 HH97 hEL hlocks hret rfl rfl (hb hby own_d_method_4_code_106) (by decide) (by decide) ⟨congrArg some (by simp only [own_exp, if_pos hc44_31, if_pos hc53_96, if_neg hc73_102, if_neg hc82_103, if_pos hc92_104, if_pos hc96_153]), N101, by rw [e154]; exact K98⟩
            · refine own_aconst_null X101 hx (hb hby own_d_method_4_code_99) rfl ?_
              refine own_goto X101 hx (hb hby own_d_method_4_code_100) (by decide) rfl ?_
              exact own_retAH X101 hx hZ hh101 HH97 hEL hlocks hret rfl rfl (hb hby own_d_method_4_code_106) (by decide) (by decide) ⟨congrArg some (by simp only [own_exp, if_pos hc44_31, if_pos hc53_96, if_neg hc73_102, if_neg hc82_103, if_pos hc92_104, if_neg hc96_153]), N101, by rw [hh101]; exact K98⟩
        · refine own_getS X101 hx hZ hown (host := "") (Or.inl (hw _ (List.mem_of_getElem? (i := 111) rfl))) Via.refl hh101 ((HS ("INT32", 1) (List.mem_of_getElem? (i := 1) rfl)).ext f100.2) (hb hby own_d_method_4_code_85) rfl ?_
          intro T155 X155 e155
          exact own_retAH X155 hx hZ e155 HH97 hEL hlocks hret rfl rfl (hb hby own_d_method_4_code_88) (by decide) (by decide) ⟨congrArg some (by simp only [own_exp, if_pos hc44_31, if_pos hc53_96, if_neg hc73_102, if_pos hc82_103]), N101, by rw [e155]; exact K98⟩
      · refine own_getS X101 hx hZ hown (host := "") (Or.inl (hw _ (List.mem_of_getElem? (i := 101) rfl))) Via.refl hh101 ((HS ("INT16", 0) (List.mem_of_getElem? (i := 0) rfl)).ext f100.2) (hb hby own_d_method_4_code_76) rfl ?_
        intro T156 X156 e156
        exact own_retAH X156 hx hZ e156 HH97 hEL hlocks hret rfl rfl (hb hby own_d_method_4_code_79) (by decide) (by decide) ⟨congrArg some (by simp only [own_exp, if_pos hc44_31, if_pos hc53_96, if_pos hc73_102]), N101, by rw [e156]; exact K98⟩
    · refine own_iconst X95 hx (1 : Int32) (hb hby own_d_method_4_code_56) (by decide) rfl ?_
      refine own_goto X95 hx (hb hby own_d_method_4_code_57) (by decide) rfl ?_
      refine own_istore X95 hx #[.val (.int t1), .val nv, .val (.int (q ([111, 105, 100] : List Int32))), .val (.int (q ([109, 111, 110, 101, 121] : List Int32))), .val (.int (q ([98, 111, 111, 108] : List Int32))), .val (.int (q ([116, 105, 109, 101, 116, 122] : List Int32))), .val (.int (q ([116, 105, 109, 101, 115, 116, 97, 109, 112, 116, 122] : List Int32))), .val (.int (1 : Int32)), .unset] (hb hby own_d_method_4_code_61) rfl rfl ?_
      refine own_ldcS X95 hx hZ hown (hw _ (List.mem_of_getElem? (i := 36) rfl)) hwS hh95 HH91 hEL (List.mem_of_getElem? (i := 15) rfl) (vs := ((([117, 117, 105, 100] : List Int32).map StrChars.lo8).map Value.int)) (z := (4 : Int32)) (by decide +kernel) (by decide) (by decide) (hb hby own_d_method_4_code_63) 16 (by decide) (by decide) (by decide) (by decide) rfl ?_
      intro ls157 T157 h157 lt157 k157 X157 e157 E157 hZ hown HH157 A157 Ex157 Fc157 Fv157 V157 ne157
      have K158 := K92.ext E157
      refine own_aloadN X157 hx (hb hby own_d_method_4_code_65) rfl SN.isref rfl ?_
      have f159 := (f93.ext E157)
      have f160 := (f94.ext E157)
      refine own_virtualB X157 hx hZ (y := (⟨"java/lang/String", "equals", "(Ljava/lang/Object;)Z"⟩ : MethodName)) (z := (⟨"java/lang/String", "equals", "(Ljava/lang/Object;)Z"⟩ : MethodName)) hown (hw _ (List.mem_of_getElem? (i := 17) rfl)) (hw _ (List.mem_of_getElem? (i := 18) rfl)) (notFace_of_selects (args := #[]) (mvT hZ (hw _ (List.mem_of_getElem? (i := 20) rfl)))) (hw _ (List.mem_of_getElem? (i := 20) rfl)) (hw _ (List.mem_of_getElem? (i := 19) rfl)) (by decide) e157 (W := 0) (ce := 0) (sl := 0) (by decide) (by decide) [nv] [] (by rw [hml]; rfl) Ex157 (fun v h' L => v = some (.int (q ([117, 117, 105, 100] : List Int32))) ∧ L = [] ∧ h' = h157) (own_eqSN (W := 0) hZ hw (cs := ([117, 117, 105, 100] : List Int32)) ⟨_, _, _, _, _, Ex157, Fv157, Fc157, V157, (StrChars.Road.codOf (cs := [117, 117, 105, 100]) (n := 4) rfl (by decide)), (by decide), (Nat.le_of_ble_eq_true rfl)⟩ f159 (SC.ext f160.2) hzc (by decide) (by decide)) own_pd3 rfl rfl rfl (hb hby own_d_method_4_code_66) rfl ?_
      intro v161 T161 L161 X161 hQ161
      obtain ⟨rfl, rfl, hh161⟩ := hQ161
      have N161 := Fr.app N95 (Fr.nil n0)
      show own_Ends p e below _ (T161.setTop (mkF m 69 #[.val (.int t1), .val nv, .val (.int (q ([111, 105, 100] : List Int32))), .val (.int (q ([109, 111, 110, 101, 121] : List Int32))), .val (.int (q ([98, 111, 111, 108] : List Int32))), .val (.int (q ([116, 105, 109, 101, 116, 122] : List Int32))), .val (.int (q ([116, 105, 109, 101, 115, 116, 97, 109, 112, 116, 122] : List Int32))), .val (.int (1 : Int32)), .unset] [(.int (q ([117, 117, 105, 100] : List Int32)))]))
      refine own_istore X161 hx #[.val (.int t1), .val nv, .val (.int (q ([111, 105, 100] : List Int32))), .val (.int (q ([109, 111, 110, 101, 121] : List Int32))), .val (.int (q ([98, 111, 111, 108] : List Int32))), .val (.int (q ([116, 105, 109, 101, 116, 122] : List Int32))), .val (.int (q ([116, 105, 109, 101, 115, 116, 97, 109, 112, 116, 122] : List Int32))), .val (.int (1 : Int32)), .val (.int (q ([117, 117, 105, 100] : List Int32)))] (hb hby own_d_method_4_code_69) rfl rfl ?_
      refine own_iloadN X161 hx (hb hby own_d_method_4_code_71) rfl rfl ?_
      refine own_iconst X161 hx (5 : Int32) (hb hby own_d_method_4_code_72) (by decide) rfl ?_
      refine own_icmp_ne X161 hx (hb hby own_d_method_4_code_73) (by decide) rfl rfl (fun hc73_162 => ?_) (fun hc73_162 => ?_)
      · refine own_iloadN X161 hx (hb hby own_d_method_4_code_80) rfl rfl ?_
        refine own_iconst X161 hx (4 : Int32) (hb hby own_d_method_4_code_81) (by decide) rfl ?_
        refine own_icmp_ne X161 hx (hb hby own_d_method_4_code_82) (by decide) rfl rfl (fun hc82_163 => ?_) (fun hc82_163 => ?_)
        · refine own_iloadN X161 hx (hb hby own_d_method_4_code_89) rfl rfl ?_
          refine own_bipush X161 hx (-5 : Int32) (hb hby own_d_method_4_code_90) (by decide) rfl ?_
          refine own_icmp_ne X161 hx (hb hby own_d_method_4_code_92) (by decide) rfl rfl (fun hc92_164 => ?_) (fun hc92_164 => ?_)
          · refine own_iloadN X161 hx (hb hby own_d_method_4_code_107) rfl rfl ?_
            refine own_bipush X161 hx (7 : Int32) (hb hby own_d_method_4_code_108) (by decide) rfl ?_
            refine own_icmp_ne X161 hx (hb hby own_d_method_4_code_110) (by decide) rfl rfl (fun hc110_165 => ?_) (fun hc110_165 => ?_)
            · refine own_iloadN X161 hx (hb hby own_d_method_4_code_117) rfl rfl ?_
              refine own_bipush X161 hx (8 : Int32) (hb hby own_d_method_4_code_118) (by decide) rfl ?_
              refine own_icmp_ne X161 hx (hb hby own_d_method_4_code_120) (by decide) rfl rfl (fun hc120_166 => ?_) (fun hc120_166 => ?_)
              · refine own_iloadN X161 hx (hb hby own_d_method_4_code_135) rfl rfl ?_
                refine own_iconst X161 hx (2 : Int32) (hb hby own_d_method_4_code_136) (by decide) rfl ?_
                refine own_icmp_eq X161 hx (hb hby own_d_method_4_code_137) (by decide) rfl rfl (fun hc137_167 => ?_) (fun hc137_167 => ?_)
                · refine own_getS X161 hx hZ hown (host := "") (Or.inl (hw _ (List.mem_of_getElem? (i := 89) rfl))) Via.refl hh161 ((HS ("DECIMAL", 5) (List.mem_of_getElem? (i := 5) rfl)).ext f160.2) (hb hby own_d_method_4_code_145) rfl ?_
                  intro T168 X168 e168
                  exact own_retAH X168 hx hZ e168 HH157 hEL hlocks hret rfl rfl (hb hby own_d_method_4_code_148) (by decide) (by decide) ⟨congrArg some (by simp only [own_exp, if_pos hc44_31, if_neg hc53_96, if_neg hc73_162, if_neg hc82_163, if_neg hc92_164, if_neg hc110_165, if_neg hc120_166, if_pos hc137_167]), N161, by rw [e168]; exact K158⟩
                · refine own_iloadN X161 hx (hb hby own_d_method_4_code_140) rfl rfl ?_
                  refine own_iconst X161 hx (3 : Int32) (hb hby own_d_method_4_code_141) (by decide) rfl ?_
                  refine own_icmp_ne X161 hx (hb hby own_d_method_4_code_142) (by decide) rfl rfl (fun hc142_169 => ?_) (fun hc142_169 => ?_)
                  · refine own_iloadN X161 hx (hb hby own_d_method_4_code_149) rfl rfl ?_
                    refine own_bipush X161 hx (16 : Int32) (hb hby own_d_method_4_code_150) (by decide) rfl ?_
                    refine own_icmp_ne X161 hx (hb hby own_d_method_4_code_152) (by decide) rfl rfl (fun hc152_170 => ?_) (fun hc152_170 => ?_)
                    · refine own_iloadN X161 hx (hb hby own_d_method_4_code_159) rfl rfl ?_
                      refine own_bipush X161 hx (-7 : Int32) (hb hby own_d_method_4_code_160) (by decide) rfl ?_
                      refine own_icmp_ne X161 hx (hb hby own_d_method_4_code_162) (by decide) rfl rfl (fun hc162_171 => ?_) (fun hc162_171 => ?_)
                      · refine own_iloadN X161 hx (hb hby own_d_method_4_code_178) rfl rfl ?_
                        refine own_iconst X161 hx (1 : Int32) (hb hby own_d_method_4_code_179) (by decide) rfl ?_
                        refine own_icmp_eq X161 hx (hb hby own_d_method_4_code_180) (by decide) rfl rfl (fun hc180_172 => ?_) (fun hc180_172 => ?_)
                        · refine own_getS X161 hx hZ hown (host := "") (Or.inl (hw _ (List.mem_of_getElem? (i := 104) rfl))) Via.refl hh161 ((HS ("UTF8", 7) (List.mem_of_getElem? (i := 7) rfl)).ext f160.2) (hb hby own_d_method_4_code_212) rfl ?_
                          intro T173 X173 e173
                          exact own_retAH X173 hx hZ e173 HH157 hEL hlocks hret rfl rfl (hb hby own_d_method_4_code_215) (by decide) (by decide) ⟨congrArg some (by simp only [own_exp, if_pos hc44_31, if_neg hc53_96, if_neg hc73_162, if_neg hc82_163, if_neg hc92_164, if_neg hc110_165, if_neg hc120_166, if_neg hc137_167, if_neg hc142_169, if_neg hc152_170, if_neg hc162_171, if_pos hc180_172]), N161, by rw [e173]; exact K158⟩
                        · refine own_iloadN X161 hx (hb hby own_d_method_4_code_183) rfl rfl ?_
                          refine own_bipush X161 hx (12 : Int32) (hb hby own_d_method_4_code_184) (by decide) rfl ?_
                          refine own_icmp_eq X161 hx (hb hby own_d_method_4_code_186) (by decide) rfl rfl (fun hc186_174 => ?_) (fun hc186_174 => ?_)
                          · refine own_getS X161 hx hZ hown (host := "") (Or.inl (hw _ (List.mem_of_getElem? (i := 104) rfl))) Via.refl hh161 ((HS ("UTF8", 7) (List.mem_of_getElem? (i := 7) rfl)).ext f160.2) (hb hby own_d_method_4_code_212) rfl ?_
                            intro T175 X175 e175
                            exact own_retAH X175 hx hZ e175 HH157 hEL hlocks hret rfl rfl (hb hby own_d_method_4_code_215) (by decide) (by decide) ⟨congrArg some (by simp only [own_exp, if_pos hc44_31, if_neg hc53_96, if_neg hc73_162, if_neg hc82_163, if_neg hc92_164, if_neg hc110_165, if_neg hc120_166, if_neg hc137_167, if_neg hc142_169, if_neg hc152_170, if_neg hc162_171, if_neg hc180_172, if_pos hc186_174]), N161, by rw [e175]; exact K158⟩
                          · refine own_iloadN X161 hx (hb hby own_d_method_4_code_189) rfl rfl ?_
                            refine own_iconst X161 hx (-1 : Int32) (hb hby own_d_method_4_code_190) (by decide) rfl ?_
                            refine own_icmp_eq X161 hx (hb hby own_d_method_4_code_191) (by decide) rfl rfl (fun hc191_176 => ?_) (fun hc191_176 => ?_)
                            · refine own_getS X161 hx hZ hown (host := "") (Or.inl (hw _ (List.mem_of_getElem? (i := 104) rfl))) Via.refl hh161 ((HS ("UTF8", 7) (List.mem_of_getElem? (i := 7) rfl)).ext f160.2) (hb hby own_d_method_4_code_212) rfl ?_
                              intro T177 X177 e177
                              exact own_retAH X177 hx hZ e177 HH157 hEL hlocks hret rfl rfl (hb hby own_d_method_4_code_215) (by decide) (by decide) ⟨congrArg some (by simp only [own_exp, if_pos hc44_31, if_neg hc53_96, if_neg hc73_162, if_neg hc82_163, if_neg hc92_164, if_neg hc110_165, if_neg hc120_166, if_neg hc137_167, if_neg hc142_169, if_neg hc152_170, if_neg hc162_171, if_neg hc180_172, if_neg hc186_174, if_pos hc191_176]), N161, by rw [e177]; exact K158⟩
                            · refine own_iloadN X161 hx (hb hby own_d_method_4_code_194) rfl rfl ?_
                              refine own_bipush X161 hx (-15 : Int32) (hb hby own_d_method_4_code_195) (by decide) rfl ?_
                              refine own_icmp_eq X161 hx (hb hby own_d_method_4_code_197) (by decide) rfl rfl (fun hc197_178 => ?_) (fun hc197_178 => ?_)
                              · refine own_getS X161 hx hZ hown (host := "") (Or.inl (hw _ (List.mem_of_getElem? (i := 104) rfl))) Via.refl hh161 ((HS ("UTF8", 7) (List.mem_of_getElem? (i := 7) rfl)).ext f160.2) (hb hby own_d_method_4_code_212) rfl ?_
                                intro T179 X179 e179
                                exact own_retAH X179 hx hZ e179 HH157 hEL hlocks hret rfl rfl (hb hby own_d_method_4_code_215) (by decide) (by decide) ⟨congrArg some (by simp only [own_exp, if_pos hc44_31, if_neg hc53_96, if_neg hc73_162, if_neg hc82_163, if_neg hc92_164, if_neg hc110_165, if_neg hc120_166, if_neg hc137_167, if_neg hc142_169, if_neg hc152_170, if_neg hc162_171, if_neg hc180_172, if_neg hc186_174, if_neg hc191_176, if_pos hc197_178]), N161, by rw [e179]; exact K158⟩
                              · refine own_iloadN X161 hx (hb hby own_d_method_4_code_200) rfl rfl ?_
                                refine own_bipush X161 hx (-9 : Int32) (hb hby own_d_method_4_code_201) (by decide) rfl ?_
                                refine own_icmp_eq X161 hx (hb hby own_d_method_4_code_203) (by decide) rfl rfl (fun hc203_180 => ?_) (fun hc203_180 => ?_)
                                · refine own_getS X161 hx hZ hown (host := "") (Or.inl (hw _ (List.mem_of_getElem? (i := 104) rfl))) Via.refl hh161 ((HS ("UTF8", 7) (List.mem_of_getElem? (i := 7) rfl)).ext f160.2) (hb hby own_d_method_4_code_212) rfl ?_
                                  intro T181 X181 e181
                                  exact own_retAH X181 hx hZ e181 HH157 hEL hlocks hret rfl rfl (hb hby own_d_method_4_code_215) (by decide) (by decide) ⟨congrArg some (by simp only [own_exp, if_pos hc44_31, if_neg hc53_96, if_neg hc73_162, if_neg hc82_163, if_neg hc92_164, if_neg hc110_165, if_neg hc120_166, if_neg hc137_167, if_neg hc142_169, if_neg hc152_170, if_neg hc162_171, if_neg hc180_172, if_neg hc186_174, if_neg hc191_176, if_neg hc197_178, if_pos hc203_180]), N161, by rw [e181]; exact K158⟩
                                · refine own_iloadN X161 hx (hb hby own_d_method_4_code_206) rfl rfl ?_
                                  refine own_bipush X161 hx (-16 : Int32) (hb hby own_d_method_4_code_207) (by decide) rfl ?_
                                  refine own_icmp_ne X161 hx (hb hby own_d_method_4_code_209) (by decide) rfl rfl (fun hc209_182 => ?_) (fun hc209_182 => ?_)
                                  · refine own_iloadN X161 hx (hb hby own_d_method_4_code_216) rfl rfl ?_
                                    refine own_bipush X161 hx (91 : Int32) (hb hby own_d_method_4_code_217) (by decide) rfl ?_
                                    refine own_icmp_ne X161 hx (hb hby own_d_method_4_code_219) (by decide) rfl rfl (fun hc219_183 => ?_) (fun hc219_183 => ?_)
                                    · refine own_iloadN X161 hx (hb hby own_d_method_4_code_226) rfl rfl ?_
                                      refine own_bipush X161 hx (92 : Int32) (hb hby own_d_method_4_code_227) (by decide) rfl ?_
                                      refine own_icmp_ne X161 hx (hb hby own_d_method_4_code_229) (by decide) rfl rfl (fun hc229_184 => ?_) (fun hc229_184 => ?_)
                                      · refine own_iloadN X161 hx (hb hby own_d_method_4_code_245) rfl rfl ?_
                                        refine own_bipush X161 hx (93 : Int32) (hb hby own_d_method_4_code_246) (by decide) rfl ?_
                                        refine own_icmp_ne X161 hx (hb hby own_d_method_4_code_248) (by decide) rfl rfl (fun hc248_185 => ?_) (fun hc248_185 => ?_)
                                        · refine own_iloadN X161 hx (hb hby own_d_method_4_code_266) rfl rfl ?_
                                          refine own_sipush X161 hx (2014 : Int32) (hb hby own_d_method_4_code_267) (by decide) rfl ?_
                                          refine own_icmp_ne X161 hx (hb hby own_d_method_4_code_270) (by decide) rfl rfl (fun hc270_186 => ?_) (fun hc270_186 => ?_)
                                          · refine own_iloadN X161 hx (hb hby own_d_method_4_code_277) rfl rfl ?_
                                            refine own_bipush X161 hx (-2 : Int32) (hb hby own_d_method_4_code_278) (by decide) rfl ?_
                                            refine own_icmp_eq X161 hx (hb hby own_d_method_4_code_280) (by decide) rfl rfl (fun hc280_187 => ?_) (fun hc280_187 => ?_)
                                            · refine own_getS X161 hx hZ hown (host := "") (Or.inl (hw _ (List.mem_of_getElem? (i := 114) rfl))) Via.refl hh161 ((HS ("BYTES", 12) (List.mem_of_getElem? (i := 12) rfl)).ext f160.2) (hb hby own_d_method_4_code_302) rfl ?_
                                              intro T188 X188 e188
                                              exact own_retAH X188 hx hZ e188 HH157 hEL hlocks hret rfl rfl (hb hby own_d_method_4_code_305) (by decide) (by decide) ⟨congrArg some (by simp only [own_exp, if_pos hc44_31, if_neg hc53_96, if_neg hc73_162, if_neg hc82_163, if_neg hc92_164, if_neg hc110_165, if_neg hc120_166, if_neg hc137_167, if_neg hc142_169, if_neg hc152_170, if_neg hc162_171, if_neg hc180_172, if_neg hc186_174, if_neg hc191_176, if_neg hc197_178, if_neg hc203_180, if_neg hc209_182, if_neg hc219_183, if_neg hc229_184, if_neg hc248_185, if_neg hc270_186, if_pos hc280_187]), N161, by rw [e188]; exact K158⟩
                                            · refine own_iloadN X161 hx (hb hby own_d_method_4_code_283) rfl rfl ?_
                                              refine own_bipush X161 hx (-3 : Int32) (hb hby own_d_method_4_code_284) (by decide) rfl ?_
                                              refine own_icmp_eq X161 hx (hb hby own_d_method_4_code_286) (by decide) rfl rfl (fun hc286_189 => ?_) (fun hc286_189 => ?_)
                                              · refine own_getS X161 hx hZ hown (host := "") (Or.inl (hw _ (List.mem_of_getElem? (i := 114) rfl))) Via.refl hh161 ((HS ("BYTES", 12) (List.mem_of_getElem? (i := 12) rfl)).ext f160.2) (hb hby own_d_method_4_code_302) rfl ?_
                                                intro T190 X190 e190
                                                exact own_retAH X190 hx hZ e190 HH157 hEL hlocks hret rfl rfl (hb hby own_d_method_4_code_305) (by decide) (by decide) ⟨congrArg some (by simp only [own_exp, if_pos hc44_31, if_neg hc53_96, if_neg hc73_162, if_neg hc82_163, if_neg hc92_164, if_neg hc110_165, if_neg hc120_166, if_neg hc137_167, if_neg hc142_169, if_neg hc152_170, if_neg hc162_171, if_neg hc180_172, if_neg hc186_174, if_neg hc191_176, if_neg hc197_178, if_neg hc203_180, if_neg hc209_182, if_neg hc219_183, if_neg hc229_184, if_neg hc248_185, if_neg hc270_186, if_neg hc280_187, if_pos hc286_189]), N161, by rw [e190]; exact K158⟩
                                              · refine own_iloadN X161 hx (hb hby own_d_method_4_code_289) rfl rfl ?_
                                                refine own_bipush X161 hx (-4 : Int32) (hb hby own_d_method_4_code_290) (by decide) rfl ?_
                                                refine own_icmp_eq X161 hx (hb hby own_d_method_4_code_292) (by decide) rfl rfl (fun hc292_191 => ?_) (fun hc292_191 => ?_)
                                                · refine own_getS X161 hx hZ hown (host := "") (Or.inl (hw _ (List.mem_of_getElem? (i := 114) rfl))) Via.refl hh161 ((HS ("BYTES", 12) (List.mem_of_getElem? (i := 12) rfl)).ext f160.2) (hb hby own_d_method_4_code_302) rfl ?_
                                                  intro T192 X192 e192
                                                  exact own_retAH X192 hx hZ e192 HH157 hEL hlocks hret rfl rfl (hb hby own_d_method_4_code_305) (by decide) (by decide) ⟨congrArg some (by simp only [own_exp, if_pos hc44_31, if_neg hc53_96, if_neg hc73_162, if_neg hc82_163, if_neg hc92_164, if_neg hc110_165, if_neg hc120_166, if_neg hc137_167, if_neg hc142_169, if_neg hc152_170, if_neg hc162_171, if_neg hc180_172, if_neg hc186_174, if_neg hc191_176, if_neg hc197_178, if_neg hc203_180, if_neg hc209_182, if_neg hc219_183, if_neg hc229_184, if_neg hc248_185, if_neg hc270_186, if_neg hc280_187, if_neg hc286_189, if_pos hc292_191]), N161, by rw [e192]; exact K158⟩
                                                · refine own_iloadN X161 hx (hb hby own_d_method_4_code_295) rfl rfl ?_
                                                  refine own_sipush X161 hx (2004 : Int32) (hb hby own_d_method_4_code_296) (by decide) rfl ?_
                                                  refine own_icmp_ne X161 hx (hb hby own_d_method_4_code_299) (by decide) rfl rfl (fun hc299_193 => ?_) (fun hc299_193 => ?_)
                                                  · refine own_iloadN X161 hx (hb hby own_d_method_4_code_306) rfl rfl ?_
                                                    refine own_sipush X161 hx (1111 : Int32) (hb hby own_d_method_4_code_307) (by decide) rfl ?_
                                                    refine own_icmp_ne X161 hx (hb hby own_d_method_4_code_310) (by decide) rfl rfl (fun hc310_194 => ?_) (fun hc310_194 => ?_)
                                                    · refine own_aconst_null X161 hx (hb hby own_d_method_4_code_333) rfl ?_
                                                      exact own_retAH X161 hx hZ hh161 HH157 hEL hlocks hret rfl rfl (hb hby own_d_method_4_code_334) (by decide) (by decide) ⟨congrArg some (by simp only [own_exp, if_pos hc44_31, if_neg hc53_96, if_neg hc73_162, if_neg hc82_163, if_neg hc92_164, if_neg hc110_165, if_neg hc120_166, if_neg hc137_167, if_neg hc142_169, if_neg hc152_170, if_neg hc162_171, if_neg hc180_172, if_neg hc186_174, if_neg hc191_176, if_neg hc197_178, if_neg hc203_180, if_neg hc209_182, if_neg hc219_183, if_neg hc229_184, if_neg hc248_185, if_neg hc270_186, if_neg hc280_187, if_neg hc286_189, if_neg hc292_191, if_neg hc299_193, if_neg hc310_194]), N161, by rw [hh161]; exact K158⟩
                                                    · refine own_iload X161 hx (hb hby own_d_method_4_code_313) rfl rfl ?_
                                                      refine own_ifF X161 hx (hb hby own_d_method_4_code_315) rfl (by decide) ?_
                                                      refine own_getS X161 hx hZ hown (host := "") (Or.inl (hw _ (List.mem_of_getElem? (i := 104) rfl))) Via.refl hh161 ((HS ("UTF8", 7) (List.mem_of_getElem? (i := 7) rfl)).ext f160.2) (hb hby own_d_method_4_code_318) rfl ?_
                                                      intro T195 X195 e195
                                                      exact own_retAH X195 hx hZ e195 HH157 hEL hlocks hret rfl rfl (hb hby own_d_method_4_code_321) (by decide) (by decide) ⟨congrArg some (by simp only [own_exp, if_pos hc44_31, if_neg hc53_96, if_neg hc73_162, if_neg hc82_163, if_neg hc92_164, if_neg hc110_165, if_neg hc120_166, if_neg hc137_167, if_neg hc142_169, if_neg hc152_170, if_neg hc162_171, if_neg hc180_172, if_neg hc186_174, if_neg hc191_176, if_neg hc197_178, if_neg hc203_180, if_neg hc209_182, if_neg hc219_183, if_neg hc229_184, if_neg hc248_185, if_neg hc270_186, if_neg hc280_187, if_neg hc286_189, if_neg hc292_191, if_neg hc299_193, if_pos hc310_194]), N161, by rw [e195]; exact K158⟩
                                                  · refine own_getS X161 hx hZ hown (host := "") (Or.inl (hw _ (List.mem_of_getElem? (i := 114) rfl))) Via.refl hh161 ((HS ("BYTES", 12) (List.mem_of_getElem? (i := 12) rfl)).ext f160.2) (hb hby own_d_method_4_code_302) rfl ?_
                                                    intro T196 X196 e196
                                                    exact own_retAH X196 hx hZ e196 HH157 hEL hlocks hret rfl rfl (hb hby own_d_method_4_code_305) (by decide) (by decide) ⟨congrArg some (by simp only [own_exp, if_pos hc44_31, if_neg hc53_96, if_neg hc73_162, if_neg hc82_163, if_neg hc92_164, if_neg hc110_165, if_neg hc120_166, if_neg hc137_167, if_neg hc142_169, if_neg hc152_170, if_neg hc162_171, if_neg hc180_172, if_neg hc186_174, if_neg hc191_176, if_neg hc197_178, if_neg hc203_180, if_neg hc209_182, if_neg hc219_183, if_neg hc229_184, if_neg hc248_185, if_neg hc270_186, if_neg hc280_187, if_neg hc286_189, if_neg hc292_191, if_pos hc299_193]), N161, by rw [e196]; exact K158⟩
                                          · refine own_getS X161 hx hZ hown (host := "") (Or.inl (hw _ (List.mem_of_getElem? (i := 123) rfl))) Via.refl hh161 ((HS ("INSTANT", 11) (List.mem_of_getElem? (i := 11) rfl)).ext f160.2) (hb hby own_d_method_4_code_273) rfl ?_
                                            intro T197 X197 e197
                                            exact own_retAH X197 hx hZ e197 HH157 hEL hlocks hret rfl rfl (hb hby own_d_method_4_code_276) (by decide) (by decide) ⟨congrArg some (by simp only [own_exp, if_pos hc44_31, if_neg hc53_96, if_neg hc73_162, if_neg hc82_163, if_neg hc92_164, if_neg hc110_165, if_neg hc120_166, if_neg hc137_167, if_neg hc142_169, if_neg hc152_170, if_neg hc162_171, if_neg hc180_172, if_neg hc186_174, if_neg hc191_176, if_neg hc197_178, if_neg hc203_180, if_neg hc209_182, if_neg hc219_183, if_neg hc229_184, if_neg hc248_185, if_pos hc270_186]), N161, by rw [e197]; exact K158⟩
                                        · refine own_iload X161 hx (hb hby own_d_method_4_code_251) rfl rfl ?_
                                          refine own_if_eq X161 hx (hb hby own_d_method_4_code_253) (by decide) rfl rfl (fun hc253_198 => ?_) (fun hc253_198 => ?_)
                                          · refine own_getS X161 hx hZ hown (host := "") (Or.inl (hw _ (List.mem_of_getElem? (i := 130) rfl))) Via.refl hh161 ((HS ("TIMESTAMP", 10) (List.mem_of_getElem? (i := 10) rfl)).ext f160.2) (hb hby own_d_method_4_code_262) rfl ?_
                                            intro T199 X199 e199
                                            exact own_retAH X199 hx hZ e199 HH157 hEL hlocks hret rfl rfl (hb hby own_d_method_4_code_265) (by decide) (by decide) ⟨congrArg some (by simp only [own_exp, if_pos hc44_31, if_neg hc53_96, if_neg hc73_162, if_neg hc82_163, if_neg hc92_164, if_neg hc110_165, if_neg hc120_166, if_neg hc137_167, if_neg hc142_169, if_neg hc152_170, if_neg hc162_171, if_neg hc180_172, if_neg hc186_174, if_neg hc191_176, if_neg hc197_178, if_neg hc203_180, if_neg hc209_182, if_neg hc219_183, if_neg hc229_184, if_pos hc248_185, if_pos hc253_198]), N161, by rw [e199]; exact K158⟩
                                          · refine own_getS X161 hx hZ hown (host := "") (Or.inl (hw _ (List.mem_of_getElem? (i := 123) rfl))) Via.refl hh161 ((HS ("INSTANT", 11) (List.mem_of_getElem? (i := 11) rfl)).ext f160.2) (hb hby own_d_method_4_code_256) rfl ?_
                                            intro T200 X200 e200
                                            refine own_goto X200 hx (hb hby own_d_method_4_code_259) (by decide) rfl ?_
                                            exact own_retAH X200 hx hZ e200 HH157 hEL hlocks hret rfl rfl (hb hby own_d_method_4_code_265) (by decide) (by decide) ⟨congrArg some (by simp only [own_exp, if_pos hc44_31, if_neg hc53_96, if_neg hc73_162, if_neg hc82_163, if_neg hc92_164, if_neg hc110_165, if_neg hc120_166, if_neg hc137_167, if_neg hc142_169, if_neg hc152_170, if_neg hc162_171, if_neg hc180_172, if_neg hc186_174, if_neg hc191_176, if_neg hc197_178, if_neg hc203_180, if_neg hc209_182, if_neg hc219_183, if_neg hc229_184, if_pos hc248_185, if_neg hc253_198]), N161, by rw [e200]; exact K158⟩
                                      · refine own_iload X161 hx (hb hby own_d_method_4_code_232) rfl rfl ?_
                                        refine own_if_eq X161 hx (hb hby own_d_method_4_code_234) (by decide) rfl rfl (fun hc234_201 => ?_) (fun hc234_201 => ?_)
                                        · refine own_getS X161 hx hZ hown (host := "") (Or.inl (hw _ (List.mem_of_getElem? (i := 126) rfl))) Via.refl hh161 ((HS ("TIME", 9) (List.mem_of_getElem? (i := 9) rfl)).ext f160.2) (hb hby own_d_method_4_code_241) rfl ?_
                                          intro T202 X202 e202
                                          exact own_retAH X202 hx hZ e202 HH157 hEL hlocks hret rfl rfl (hb hby own_d_method_4_code_244) (by decide) (by decide) ⟨congrArg some (by simp only [own_exp, if_pos hc44_31, if_neg hc53_96, if_neg hc73_162, if_neg hc82_163, if_neg hc92_164, if_neg hc110_165, if_neg hc120_166, if_neg hc137_167, if_neg hc142_169, if_neg hc152_170, if_neg hc162_171, if_neg hc180_172, if_neg hc186_174, if_neg hc191_176, if_neg hc197_178, if_neg hc203_180, if_neg hc209_182, if_neg hc219_183, if_pos hc229_184, if_pos hc234_201]), N161, by rw [e202]; exact K158⟩
                                        · refine own_aconst_null X161 hx (hb hby own_d_method_4_code_237) rfl ?_
                                          refine own_goto X161 hx (hb hby own_d_method_4_code_238) (by decide) rfl ?_
                                          exact own_retAH X161 hx hZ hh161 HH157 hEL hlocks hret rfl rfl (hb hby own_d_method_4_code_244) (by decide) (by decide) ⟨congrArg some (by simp only [own_exp, if_pos hc44_31, if_neg hc53_96, if_neg hc73_162, if_neg hc82_163, if_neg hc92_164, if_neg hc110_165, if_neg hc120_166, if_neg hc137_167, if_neg hc142_169, if_neg hc152_170, if_neg hc162_171, if_neg hc180_172, if_neg hc186_174, if_neg hc191_176, if_neg hc197_178, if_neg hc203_180, if_neg hc209_182, if_neg hc219_183, if_pos hc229_184, if_neg hc234_201]), N161, by rw [hh161]; exact K158⟩
                                    · refine own_getS X161 hx hZ hown (host := "") (Or.inl (hw _ (List.mem_of_getElem? (i := 120) rfl))) Via.refl hh161 ((HS ("DATE", 8) (List.mem_of_getElem? (i := 8) rfl)).ext f160.2) (hb hby own_d_method_4_code_222) rfl ?_
                                      intro T203 X203 e203
                                      exact own_retAH X203 hx hZ e203 HH157 hEL hlocks hret rfl rfl (hb hby own_d_method_4_code_225) (by decide) (by decide) ⟨congrArg some (by simp only [own_exp, if_pos hc44_31, if_neg hc53_96, if_neg hc73_162, if_neg hc82_163, if_neg hc92_164, if_neg hc110_165, if_neg hc120_166, if_neg hc137_167, if_neg hc142_169, if_neg hc152_170, if_neg hc162_171, if_neg hc180_172, if_neg hc186_174, if_neg hc191_176, if_neg hc197_178, if_neg hc203_180, if_neg hc209_182, if_pos hc219_183]), N161, by rw [e203]; exact K158⟩
                                  · refine own_getS X161 hx hZ hown (host := "") (Or.inl (hw _ (List.mem_of_getElem? (i := 104) rfl))) Via.refl hh161 ((HS ("UTF8", 7) (List.mem_of_getElem? (i := 7) rfl)).ext f160.2) (hb hby own_d_method_4_code_212) rfl ?_
                                    intro T204 X204 e204
                                    exact own_retAH X204 hx hZ e204 HH157 hEL hlocks hret rfl rfl (hb hby own_d_method_4_code_215) (by decide) (by decide) ⟨congrArg some (by simp only [own_exp, if_pos hc44_31, if_neg hc53_96, if_neg hc73_162, if_neg hc82_163, if_neg hc92_164, if_neg hc110_165, if_neg hc120_166, if_neg hc137_167, if_neg hc142_169, if_neg hc152_170, if_neg hc162_171, if_neg hc180_172, if_neg hc186_174, if_neg hc191_176, if_neg hc197_178, if_neg hc203_180, if_pos hc209_182]), N161, by rw [e204]; exact K158⟩
                      · refine own_iload X161 hx (hb hby own_d_method_4_code_165) rfl rfl ?_
                        refine own_if_eq X161 hx (hb hby own_d_method_4_code_167) (by decide) rfl rfl (fun hc167_205 => ?_) (fun hc167_205 => ?_)
                        · refine own_aconst_null X161 hx (hb hby own_d_method_4_code_176) rfl ?_
                          exact own_retAH X161 hx hZ hh161 HH157 hEL hlocks hret rfl rfl (hb hby own_d_method_4_code_177) (by decide) (by decide) ⟨congrArg some (by simp only [own_exp, if_pos hc44_31, if_neg hc53_96, if_neg hc73_162, if_neg hc82_163, if_neg hc92_164, if_neg hc110_165, if_neg hc120_166, if_neg hc137_167, if_neg hc142_169, if_neg hc152_170, if_pos hc162_171, if_pos hc167_205]), N161, by rw [hh161]; exact K158⟩
                        · refine own_getS X161 hx hZ hown (host := "") (Or.inl (hw _ (List.mem_of_getElem? (i := 117) rfl))) Via.refl hh161 ((HS ("BOOLEAN", 6) (List.mem_of_getElem? (i := 6) rfl)).ext f160.2) (hb hby own_d_method_4_code_170) rfl ?_
                          intro T206 X206 e206
                          refine own_goto X206 hx (hb hby own_d_method_4_code_173) (by decide) rfl ?_
                          exact own_retAH X206 hx hZ e206 HH157 hEL hlocks hret rfl rfl (hb hby own_d_method_4_code_177) (by decide) (by decide) ⟨congrArg some (by simp only [own_exp, if_pos hc44_31, if_neg hc53_96, if_neg hc73_162, if_neg hc82_163, if_neg hc92_164, if_neg hc110_165, if_neg hc120_166, if_neg hc137_167, if_neg hc142_169, if_neg hc152_170, if_pos hc162_171, if_neg hc167_205]), N161, by rw [e206]; exact K158⟩
                    · refine own_getS X161 hx hZ hown (host := "") (Or.inl (hw _ (List.mem_of_getElem? (i := 117) rfl))) Via.refl hh161 ((HS ("BOOLEAN", 6) (List.mem_of_getElem? (i := 6) rfl)).ext f160.2) (hb hby own_d_method_4_code_155) rfl ?_
                      intro T207 X207 e207
                      exact own_retAH X207 hx hZ e207 HH157 hEL hlocks hret rfl rfl (hb hby own_d_method_4_code_158) (by decide) (by decide) ⟨congrArg some (by simp only [own_exp, if_pos hc44_31, if_neg hc53_96, if_neg hc73_162, if_neg hc82_163, if_neg hc92_164, if_neg hc110_165, if_neg hc120_166, if_neg hc137_167, if_neg hc142_169, if_pos hc152_170]), N161, by rw [e207]; exact K158⟩
                  · refine own_getS X161 hx hZ hown (host := "") (Or.inl (hw _ (List.mem_of_getElem? (i := 89) rfl))) Via.refl hh161 ((HS ("DECIMAL", 5) (List.mem_of_getElem? (i := 5) rfl)).ext f160.2) (hb hby own_d_method_4_code_145) rfl ?_
                    intro T208 X208 e208
                    exact own_retAH X208 hx hZ e208 HH157 hEL hlocks hret rfl rfl (hb hby own_d_method_4_code_148) (by decide) (by decide) ⟨congrArg some (by simp only [own_exp, if_pos hc44_31, if_neg hc53_96, if_neg hc73_162, if_neg hc82_163, if_neg hc92_164, if_neg hc110_165, if_neg hc120_166, if_neg hc137_167, if_pos hc142_169]), N161, by rw [e208]; exact K158⟩
              · refine own_iloadN X161 hx (hb hby own_d_method_4_code_123) rfl rfl ?_
                refine own_if_eq X161 hx (hb hby own_d_method_4_code_124) (by decide) rfl rfl (fun hc124_209 => ?_) (fun hc124_209 => ?_)
                · refine own_getS X161 hx hZ hown (host := "") (Or.inl (hw _ (List.mem_of_getElem? (i := 67) rfl))) Via.refl hh161 ((HS ("FLOAT64", 4) (List.mem_of_getElem? (i := 4) rfl)).ext f160.2) (hb hby own_d_method_4_code_131) rfl ?_
                  intro T210 X210 e210
                  exact own_retAH X210 hx hZ e210 HH157 hEL hlocks hret rfl rfl (hb hby own_d_method_4_code_134) (by decide) (by decide) ⟨congrArg some (by simp only [own_exp, if_pos hc44_31, if_neg hc53_96, if_neg hc73_162, if_neg hc82_163, if_neg hc92_164, if_neg hc110_165, if_pos hc120_166, if_pos hc124_209]), N161, by rw [e210]; exact K158⟩
                · refine own_aconst_null X161 hx (hb hby own_d_method_4_code_127) rfl ?_
                  refine own_goto X161 hx (hb hby own_d_method_4_code_128) (by decide) rfl ?_
                  exact own_retAH X161 hx hZ hh161 HH157 hEL hlocks hret rfl rfl (hb hby own_d_method_4_code_134) (by decide) (by decide) ⟨congrArg some (by simp only [own_exp, if_pos hc44_31, if_neg hc53_96, if_neg hc73_162, if_neg hc82_163, if_neg hc92_164, if_neg hc110_165, if_pos hc120_166, if_neg hc124_209]), N161, by rw [hh161]; exact K158⟩
            · refine own_getS X161 hx hZ hown (host := "") (Or.inl (hw _ (List.mem_of_getElem? (i := 92) rfl))) Via.refl hh161 ((HS ("FLOAT32", 3) (List.mem_of_getElem? (i := 3) rfl)).ext f160.2) (hb hby own_d_method_4_code_113) rfl ?_
              intro T211 X211 e211
              exact own_retAH X211 hx hZ e211 HH157 hEL hlocks hret rfl rfl (hb hby own_d_method_4_code_116) (by decide) (by decide) ⟨congrArg some (by simp only [own_exp, if_pos hc44_31, if_neg hc53_96, if_neg hc73_162, if_neg hc82_163, if_neg hc92_164, if_pos hc110_165]), N161, by rw [e211]; exact K158⟩
          · refine own_iloadN X161 hx (hb hby own_d_method_4_code_95) rfl rfl ?_
            refine own_if_eq X161 hx (hb hby own_d_method_4_code_96) (by decide) rfl rfl (fun hc96_212 => ?_) (fun hc96_212 => ?_)
            · refine own_getS X161 hx hZ hown (host := "") (Or.inl (hw _ (List.mem_of_getElem? (i := 107) rfl))) Via.refl hh161 ((HS ("INT64", 2) (List.mem_of_getElem? (i := 2) rfl)).ext f160.2) (hb hby own_d_method_4_code_103) rfl ?_
              intro T213 X213 e213
              exact own_retAH X213 hx hZ e213 HH157 hEL hlocks hret rfl rfl (hb hby own_d_method_4_code_106) (by decide) (by decide) ⟨congrArg some (by simp only [own_exp, if_pos hc44_31, if_neg hc53_96, if_neg hc73_162, if_neg hc82_163, if_pos hc92_164, if_pos hc96_212]), N161, by rw [e213]; exact K158⟩
            · refine own_aconst_null X161 hx (hb hby own_d_method_4_code_99) rfl ?_
              refine own_goto X161 hx (hb hby own_d_method_4_code_100) (by decide) rfl ?_
              exact own_retAH X161 hx hZ hh161 HH157 hEL hlocks hret rfl rfl (hb hby own_d_method_4_code_106) (by decide) (by decide) ⟨congrArg some (by simp only [own_exp, if_pos hc44_31, if_neg hc53_96, if_neg hc73_162, if_neg hc82_163, if_pos hc92_164, if_neg hc96_212]), N161, by rw [hh161]; exact K158⟩
        · refine own_getS X161 hx hZ hown (host := "") (Or.inl (hw _ (List.mem_of_getElem? (i := 111) rfl))) Via.refl hh161 ((HS ("INT32", 1) (List.mem_of_getElem? (i := 1) rfl)).ext f160.2) (hb hby own_d_method_4_code_85) rfl ?_
          intro T214 X214 e214
          exact own_retAH X214 hx hZ e214 HH157 hEL hlocks hret rfl rfl (hb hby own_d_method_4_code_88) (by decide) (by decide) ⟨congrArg some (by simp only [own_exp, if_pos hc44_31, if_neg hc53_96, if_neg hc73_162, if_pos hc82_163]), N161, by rw [e214]; exact K158⟩
      · refine own_getS X161 hx hZ hown (host := "") (Or.inl (hw _ (List.mem_of_getElem? (i := 101) rfl))) Via.refl hh161 ((HS ("INT16", 0) (List.mem_of_getElem? (i := 0) rfl)).ext f160.2) (hb hby own_d_method_4_code_76) rfl ?_
        intro T215 X215 e215
        exact own_retAH X215 hx hZ e215 HH157 hEL hlocks hret rfl rfl (hb hby own_d_method_4_code_79) (by decide) (by decide) ⟨congrArg some (by simp only [own_exp, if_pos hc44_31, if_neg hc53_96, if_pos hc73_162]), N161, by rw [e215]; exact K158⟩
set_option maxRecDepth 65536 in
set_option maxHeartbeats 40000000 in
theorem own_forOther (l : Launch) (Z : State) (a0 : Array Value) (hw : ∀ d ∈ tables_1, d.before a0 Z = true) (zc : Int32) (en : Nat → Addr) (em : Addr) (nv : Value) (q : List Int32 → Int32) (h0 : Heap) (n0 : Nat) (hEL : EW Z a0 consts_1) (O0 : Old Z n0 h0) (SC : Sta Z Z.heap "java/lang/String" "COMPACT_STRINGS" "Z" (.int zc)) (hzc : ¬ zc = 0) (HS : ∀ q ∈ own_names, Sta Z Z.heap "com/example/kinfold/kinfold/ValueEncoding" q.1 "Lcom/example/kinfold/kinfold/ValueEncoding;" (.ref (en q.2))) (SE : Sta Z Z.heap "java/util/Optional" "EMPTY" "Ljava/util/Optional;" (.ref em)) (XE : Exa Z Z.heap em "java/util/Optional") (FE : Fld Z Z.heap em "java/util/Optional" "value" "Ljava/lang/Object;" .null) (SN : own_SN Z h0 nv q) :
    own_MetH l (⟨"com/example/kinfold/kinfold/ValueEncoding", "forOtherType", "(Ljava/lang/String;)Lcom/example/kinfold/kinfold/ValueEncoding;"⟩ : MethodName) prog_29_method_7_code 2 (some (.object "com/example/kinfold/kinfold/ValueEncoding")) ({ frames := 2, cells := 6, slots := 64, locals := 28 } : Room) Z consts_1 #[nv] h0 (fun v h L => v = some (own_exp en (1111 : Int32) q) ∧ Fr n0 L ∧ Keep h0 h []) := by
  refine own_metH (plainFor_of_name own_pn_com_example_kinfold_kinfold_ValueEncoding) ?_
  intro p e s m below meth c T0 hx hby hml hZ hown hnm hret hlocks X0 e0 hh0 HH0
  have hrn := SN.isref
  have ef : entryFrame m #[nv] 2 = mkF m 0 #[.val nv, .unset] [] := by cases nv <;> first | (simp [entryFrame, mkF, argsToLocals, Value.category]; done) | rfl | (cases hrn)
  refine own_entry ef ?_
  have N0 := Fr.nil n0
  have K0 := Keep.refl h0 []
  have hwS := own_hwS hw
  refine own_ldcS X0 hx hZ hown (hw _ (List.mem_of_getElem? (i := 98) rfl)) hwS e0 HH0 hEL (List.mem_of_getElem? (i := 5) rfl) (vs := ((([106, 115, 111, 110] : List Int32).map StrChars.lo8).map Value.int)) (z := (4 : Int32)) (by decide +kernel) (by decide) (by decide) (hb hby own_d_prog_29_method_7_code_0) 16 (by decide) (by decide) (by decide) (by decide) rfl ?_
  intro ls1 T1 h1 lt1 k1 X1 e1 E1 hZ hown HH1 A1 Ex1 Fc1 Fv1 V1 ne1
  have K2 := K0.ext E1
  refine own_aloadN X1 hx (hb hby own_d_prog_29_method_7_code_2) rfl SN.isref rfl ?_
  have f3 := (SN.ext E1)
  have f4 := (O0.ext E1)
  refine own_virtualB X1 hx hZ (y := (⟨"java/lang/String", "equals", "(Ljava/lang/Object;)Z"⟩ : MethodName)) (z := (⟨"java/lang/String", "equals", "(Ljava/lang/Object;)Z"⟩ : MethodName)) hown (hw _ (List.mem_of_getElem? (i := 70) rfl)) (hw _ (List.mem_of_getElem? (i := 18) rfl)) (notFace_of_selects (args := #[]) (mvT hZ (hw _ (List.mem_of_getElem? (i := 20) rfl)))) (hw _ (List.mem_of_getElem? (i := 20) rfl)) (hw _ (List.mem_of_getElem? (i := 19) rfl)) (by decide) e1 (W := 0) (ce := 0) (sl := 0) (by decide) (by decide) [nv] [] (by rw [hml]; rfl) Ex1 (fun v h' L => v = some (.int (q ([106, 115, 111, 110] : List Int32))) ∧ L = [] ∧ h' = h1) (own_eqSN (W := 0) hZ hw (cs := ([106, 115, 111, 110] : List Int32)) ⟨_, _, _, _, _, Ex1, Fv1, Fc1, V1, (StrChars.Road.codOf (cs := [106, 115, 111, 110]) (n := 4) rfl (by decide)), (by decide), (Nat.le_of_ble_eq_true rfl)⟩ f3 (SC.ext f4.2) hzc (by decide) (by decide)) own_pd3 rfl rfl rfl (hb hby own_d_prog_29_method_7_code_3) rfl ?_
  intro v5 T5 L5 X5 hQ5
  obtain ⟨rfl, rfl, hh5⟩ := hQ5
  have N5 := Fr.app N0 (Fr.nil n0)
  show own_Ends p e below _ (T5.setTop (mkF m 6 #[.val nv, .unset] [(.int (q ([106, 115, 111, 110] : List Int32)))]))
  refine own_if_ne X5 hx (hb hby own_d_prog_29_method_7_code_6) (by decide) rfl rfl (fun hc6_6 => ?_) (fun hc6_6 => ?_)
  · refine own_getS X5 hx hZ hown (host := "") (Or.inl (hw _ (List.mem_of_getElem? (i := 106) rfl))) Via.refl hh5 ((HS ("UTF8", 7) (List.mem_of_getElem? (i := 7) rfl)).ext f4.2) (hb hby own_d_prog_29_method_7_code_18) rfl ?_
    intro T7 X7 e7
    refine own_astoreN X7 hx #[.val nv, .val (.ref (en 7))] (hb hby own_d_prog_29_method_7_code_21) rfl rfl rfl ?_
    refine own_goto X7 hx (hb hby own_d_prog_29_method_7_code_22) (by decide) rfl ?_
    refine own_aloadN X7 hx (hb hby own_d_prog_29_method_7_code_43) rfl rfl rfl ?_
    exact own_retAH X7 hx hZ e7 HH1 hEL hlocks hret rfl rfl (hb hby own_d_prog_29_method_7_code_44) (by decide) (by decide) ⟨congrArg some (by simp [own_exp, hc6_6]), N5, by rw [e7]; exact K2⟩
  · refine own_ldcS X5 hx hZ hown (hw _ (List.mem_of_getElem? (i := 99) rfl)) hwS hh5 HH1 hEL (List.mem_of_getElem? (i := 6) rfl) (vs := ((([106, 115, 111, 110, 98] : List Int32).map StrChars.lo8).map Value.int)) (z := (5 : Int32)) (by decide +kernel) (by decide) (by decide) (hb hby own_d_prog_29_method_7_code_9) 20 (by decide) (by decide) (by decide) (by decide) rfl ?_
    intro ls8 T8 h8 lt8 k8 X8 e8 E8 hZ hown HH8 A8 Ex8 Fc8 Fv8 V8 ne8
    have K9 := K2.ext E8
    refine own_aloadN X8 hx (hb hby own_d_prog_29_method_7_code_11) rfl SN.isref rfl ?_
    have f10 := (f3.ext E8)
    have f11 := (f4.ext E8)
    refine own_virtualB X8 hx hZ (y := (⟨"java/lang/String", "equals", "(Ljava/lang/Object;)Z"⟩ : MethodName)) (z := (⟨"java/lang/String", "equals", "(Ljava/lang/Object;)Z"⟩ : MethodName)) hown (hw _ (List.mem_of_getElem? (i := 70) rfl)) (hw _ (List.mem_of_getElem? (i := 18) rfl)) (notFace_of_selects (args := #[]) (mvT hZ (hw _ (List.mem_of_getElem? (i := 20) rfl)))) (hw _ (List.mem_of_getElem? (i := 20) rfl)) (hw _ (List.mem_of_getElem? (i := 19) rfl)) (by decide) e8 (W := 0) (ce := 0) (sl := 0) (by decide) (by decide) [nv] [] (by rw [hml]; rfl) Ex8 (fun v h' L => v = some (.int (q ([106, 115, 111, 110, 98] : List Int32))) ∧ L = [] ∧ h' = h8) (own_eqSN (W := 0) hZ hw (cs := ([106, 115, 111, 110, 98] : List Int32)) ⟨_, _, _, _, _, Ex8, Fv8, Fc8, V8, (StrChars.Road.codOf (cs := [106, 115, 111, 110, 98]) (n := 5) rfl (by decide)), (by decide), (Nat.le_of_ble_eq_true rfl)⟩ f10 (SC.ext f11.2) hzc (by decide) (by decide)) own_pd3 rfl rfl rfl (hb hby own_d_prog_29_method_7_code_12) rfl ?_
    intro v12 T12 L12 X12 hQ12
    obtain ⟨rfl, rfl, hh12⟩ := hQ12
    have N12 := Fr.app N5 (Fr.nil n0)
    show own_Ends p e below _ (T12.setTop (mkF m 15 #[.val nv, .unset] [(.int (q ([106, 115, 111, 110, 98] : List Int32)))]))
    refine own_if_eq X12 hx (hb hby own_d_prog_29_method_7_code_15) (by decide) rfl rfl (fun hc15_13 => ?_) (fun hc15_13 => ?_)
    · refine own_ldcS X12 hx hZ hown (hw _ (List.mem_of_getElem? (i := 100) rfl)) hwS hh12 HH8 hEL (List.mem_of_getElem? (i := 7) rfl) (vs := ((([117, 117, 105, 100] : List Int32).map StrChars.lo8).map Value.int)) (z := (4 : Int32)) (by decide +kernel) (by decide) (by decide) (hb hby own_d_prog_29_method_7_code_25) 16 (by decide) (by decide) (by decide) (by decide) rfl ?_
      intro ls14 T14 h14 lt14 k14 X14 e14 E14 hZ hown HH14 A14 Ex14 Fc14 Fv14 V14 ne14
      have K15 := K9.ext E14
      refine own_aloadN X14 hx (hb hby own_d_prog_29_method_7_code_27) rfl SN.isref rfl ?_
      have f16 := (f10.ext E14)
      have f17 := (f11.ext E14)
      refine own_virtualB X14 hx hZ (y := (⟨"java/lang/String", "equals", "(Ljava/lang/Object;)Z"⟩ : MethodName)) (z := (⟨"java/lang/String", "equals", "(Ljava/lang/Object;)Z"⟩ : MethodName)) hown (hw _ (List.mem_of_getElem? (i := 70) rfl)) (hw _ (List.mem_of_getElem? (i := 18) rfl)) (notFace_of_selects (args := #[]) (mvT hZ (hw _ (List.mem_of_getElem? (i := 20) rfl)))) (hw _ (List.mem_of_getElem? (i := 20) rfl)) (hw _ (List.mem_of_getElem? (i := 19) rfl)) (by decide) e14 (W := 0) (ce := 0) (sl := 0) (by decide) (by decide) [nv] [] (by rw [hml]; rfl) Ex14 (fun v h' L => v = some (.int (q ([117, 117, 105, 100] : List Int32))) ∧ L = [] ∧ h' = h14) (own_eqSN (W := 0) hZ hw (cs := ([117, 117, 105, 100] : List Int32)) ⟨_, _, _, _, _, Ex14, Fv14, Fc14, V14, (StrChars.Road.codOf (cs := [117, 117, 105, 100]) (n := 4) rfl (by decide)), (by decide), (Nat.le_of_ble_eq_true rfl)⟩ f16 (SC.ext f17.2) hzc (by decide) (by decide)) own_pd3 rfl rfl rfl (hb hby own_d_prog_29_method_7_code_28) rfl ?_
      intro v18 T18 L18 X18 hQ18
      obtain ⟨rfl, rfl, hh18⟩ := hQ18
      have N18 := Fr.app N12 (Fr.nil n0)
      show own_Ends p e below _ (T18.setTop (mkF m 31 #[.val nv, .unset] [(.int (q ([117, 117, 105, 100] : List Int32)))]))
      refine own_if_eq X18 hx (hb hby own_d_prog_29_method_7_code_31) (by decide) rfl rfl (fun hc31_19 => ?_) (fun hc31_19 => ?_)
      · refine own_aconst_null X18 hx (hb hby own_d_prog_29_method_7_code_41) rfl ?_
        refine own_astoreN X18 hx #[.val nv, .val .null] (hb hby own_d_prog_29_method_7_code_42) rfl rfl rfl ?_
        refine own_aloadN X18 hx (hb hby own_d_prog_29_method_7_code_43) rfl rfl rfl ?_
        exact own_retAH X18 hx hZ hh18 HH14 hEL hlocks hret rfl rfl (hb hby own_d_prog_29_method_7_code_44) (by decide) (by decide) ⟨congrArg some (by simp [own_exp, hc6_6, hc15_13, hc31_19]), N18, by rw [hh18]; exact K15⟩
      · refine own_getS X18 hx hZ hown (host := "") (Or.inl (hw _ (List.mem_of_getElem? (i := 137) rfl))) Via.refl hh18 ((HS ("UUID", 13) (List.mem_of_getElem? (i := 13) rfl)).ext f17.2) (hb hby own_d_prog_29_method_7_code_34) rfl ?_
        intro T20 X20 e20
        refine own_astoreN X20 hx #[.val nv, .val (.ref (en 13))] (hb hby own_d_prog_29_method_7_code_37) rfl rfl rfl ?_
        refine own_goto X20 hx (hb hby own_d_prog_29_method_7_code_38) (by decide) rfl ?_
        refine own_aloadN X20 hx (hb hby own_d_prog_29_method_7_code_43) rfl rfl rfl ?_
        exact own_retAH X20 hx hZ e20 HH14 hEL hlocks hret rfl rfl (hb hby own_d_prog_29_method_7_code_44) (by decide) (by decide) ⟨congrArg some (by simp [own_exp, hc6_6, hc15_13, hc31_19]), N18, by rw [e20]; exact K15⟩
    · refine own_getS X12 hx hZ hown (host := "") (Or.inl (hw _ (List.mem_of_getElem? (i := 106) rfl))) Via.refl hh12 ((HS ("UTF8", 7) (List.mem_of_getElem? (i := 7) rfl)).ext f11.2) (hb hby own_d_prog_29_method_7_code_18) rfl ?_
      intro T21 X21 e21
      refine own_astoreN X21 hx #[.val nv, .val (.ref (en 7))] (hb hby own_d_prog_29_method_7_code_21) rfl rfl rfl ?_
      refine own_goto X21 hx (hb hby own_d_prog_29_method_7_code_22) (by decide) rfl ?_
      refine own_aloadN X21 hx (hb hby own_d_prog_29_method_7_code_43) rfl rfl rfl ?_
      exact own_retAH X21 hx hZ e21 HH8 hEL hlocks hret rfl rfl (hb hby own_d_prog_29_method_7_code_44) (by decide) (by decide) ⟨congrArg some (by simp [own_exp, hc6_6, hc15_13]), N12, by rw [e21]; exact K9⟩
set_option maxRecDepth 65536 in
set_option maxHeartbeats 40000000 in
theorem own_forType (l : Launch) (Z : State) (a0 : Array Value) (hw : ∀ d ∈ tables_1, d.before a0 Z = true) (t1 zc : Int32) (en : Nat → Addr) (em : Addr) (nv : Value) (q : List Int32 → Int32) (h0 : Heap) (n0 : Nat) (hEL : EW Z a0 consts_1) (O0 : Old Z n0 h0) (SC : Sta Z Z.heap "java/lang/String" "COMPACT_STRINGS" "Z" (.int zc)) (hzc : ¬ zc = 0) (HS : ∀ q ∈ own_names, Sta Z Z.heap "com/example/kinfold/kinfold/ValueEncoding" q.1 "Lcom/example/kinfold/kinfold/ValueEncoding;" (.ref (en q.2))) (SE : Sta Z Z.heap "java/util/Optional" "EMPTY" "Ljava/util/Optional;" (.ref em)) (XE : Exa Z Z.heap em "java/util/Optional") (FE : Fld Z Z.heap em "java/util/Optional" "value" "Ljava/lang/Object;" .null) (SN : own_SN Z h0 nv q) :
    own_MetH l (⟨"com/example/kinfold/kinfold/ValueEncoding", "forType", "(ILjava/lang/String;)Ljava/util/Optional;"⟩ : MethodName) prog_29_method_6_code 3 (some (.object "java/util/Optional")) ({ frames := 3, cells := 7, slots := 65, locals := 41 } : Room) Z consts_1 #[(.int t1), nv] h0 (fun v h L => ∃ op : Addr, v = some (.ref op) ∧ Fr n0 L ∧ Keep h0 h [] ∧ Exa Z h op "java/util/Optional" ∧ Fld Z h op "java/util/Optional" "value" "Ljava/lang/Object;" (own_exp en t1 q)) := by
  refine own_metH (plainFor_of_name own_pn_com_example_kinfold_kinfold_ValueEncoding) ?_
  intro p e s m below meth c T0 hx hby hml hZ hown hnm hret hlocks X0 e0 hh0 HH0
  have hrn := SN.isref
  have ef : entryFrame m #[(.int t1), nv] 3 = mkF m 0 #[.val (.int t1), .val nv, .unset] [] := by cases nv <;> first | (simp [entryFrame, mkF, argsToLocals, Value.category]; done) | rfl | (cases hrn)
  refine own_entry ef ?_
  have N0 := Fr.nil n0
  have K0 := Keep.refl h0 []
  have hwS := own_hwS hw
  refine own_iloadN X0 hx (hb hby own_d_prog_29_method_6_code_0) rfl rfl ?_
  rcases own_sw t1 with rfl | rfl | rfl | rfl | rfl | rfl | rfl | rfl | rfl | rfl | rfl | rfl | rfl | rfl | rfl | rfl | rfl | rfl | rfl | rfl | rfl | rfl | rfl | rfl | ⟨nk0, nk1, nk2, nk3, nk4, nk5, nk6, nk7, nk8, nk9, nk10, nk11, nk12, nk13, nk14, nk15, nk16, nk17, nk18, nk19, nk20, nk21, nk22, nk23⟩
  · refine own_lswHit X0 hx (hb hby own_d_prog_29_method_6_code_1) (by decide) (a := (-16)) (off := 290) (by decide) (by decide) rfl ?_
    refine own_getS X0 hx hZ hown (host := "") (Or.inl (hw _ (List.mem_of_getElem? (i := 106) rfl))) Via.refl e0 ((HS ("UTF8", 7) (List.mem_of_getElem? (i := 7) rfl)).ext O0.2) (hb hby own_d_prog_29_method_6_code_291) rfl ?_
    intro T1 X1 e1
    refine own_goto X1 hx (hb hby own_d_prog_29_method_6_code_294) (by decide) rfl ?_
    refine own_astoreN X1 hx #[.val (.int (-16 : Int32)), .val nv, .val (.ref (en 7))] (hb hby own_d_prog_29_method_6_code_363) rfl rfl rfl ?_
    refine own_aloadN X1 hx (hb hby own_d_prog_29_method_6_code_364) rfl rfl rfl ?_
    refine own_static X1 hx hZ (y := (⟨"java/util/Optional", "ofNullable", "(Ljava/lang/Object;)Ljava/util/Optional;"⟩ : MethodName)) hown (hw _ (List.mem_of_getElem? (i := 41) rfl)) (hw _ (List.mem_of_getElem? (i := 42) rfl)) (hw _ (List.mem_of_getElem? (i := 43) rfl)) (hw _ (List.mem_of_getElem? (i := 44) rfl)) (by decide) e1 (by decide) (W := 0) (by decide) (by decide) (by decide) [(.ref (en 7))] [] (by rw [hml]; rfl) (own_ofNullable l Z a0 hw em (.ref (en 7)) h0 n0 rfl O0 SE XE FE) own_pd4 rfl rfl rfl (hb hby own_d_prog_29_method_6_code_365) rfl ?_
    intro v2 T2 L2 X2 hQ2
    obtain ⟨op2, rfl, Nq2, Kq2, Eo2, Fo2⟩ := hQ2
    have N2 := Fr.app N0 Nq2
    have HH3 := HH0.keep Kq2 sf0
    have K4 := K0.trans Kq2 all0
    show own_Ends p e below _ (T2.setTop (mkF m 368 #[.val (.int (-16 : Int32)), .val nv, .val (.ref (en 7))] [(.ref op2)]))
    exact own_retAH X2 hx hZ rfl HH3 hEL hlocks hret rfl rfl (hb hby own_d_prog_29_method_6_code_368) (by decide) (by decide) ⟨op2, rfl, N2, by exact ⟨K4, Eo2, (by rw [show own_exp en (-16 : Int32) q = (.ref (en 7)) from by simp [own_exp]]; exact Fo2)⟩⟩
  · refine own_lswHit X0 hx (hb hby own_d_prog_29_method_6_code_1) (by decide) (a := (-15)) (off := 290) (by decide) (by decide) rfl ?_
    refine own_getS X0 hx hZ hown (host := "") (Or.inl (hw _ (List.mem_of_getElem? (i := 106) rfl))) Via.refl e0 ((HS ("UTF8", 7) (List.mem_of_getElem? (i := 7) rfl)).ext O0.2) (hb hby own_d_prog_29_method_6_code_291) rfl ?_
    intro T5 X5 e5
    refine own_goto X5 hx (hb hby own_d_prog_29_method_6_code_294) (by decide) rfl ?_
    refine own_astoreN X5 hx #[.val (.int (-15 : Int32)), .val nv, .val (.ref (en 7))] (hb hby own_d_prog_29_method_6_code_363) rfl rfl rfl ?_
    refine own_aloadN X5 hx (hb hby own_d_prog_29_method_6_code_364) rfl rfl rfl ?_
    refine own_static X5 hx hZ (y := (⟨"java/util/Optional", "ofNullable", "(Ljava/lang/Object;)Ljava/util/Optional;"⟩ : MethodName)) hown (hw _ (List.mem_of_getElem? (i := 41) rfl)) (hw _ (List.mem_of_getElem? (i := 42) rfl)) (hw _ (List.mem_of_getElem? (i := 43) rfl)) (hw _ (List.mem_of_getElem? (i := 44) rfl)) (by decide) e5 (by decide) (W := 0) (by decide) (by decide) (by decide) [(.ref (en 7))] [] (by rw [hml]; rfl) (own_ofNullable l Z a0 hw em (.ref (en 7)) h0 n0 rfl O0 SE XE FE) own_pd4 rfl rfl rfl (hb hby own_d_prog_29_method_6_code_365) rfl ?_
    intro v6 T6 L6 X6 hQ6
    obtain ⟨op6, rfl, Nq6, Kq6, Eo6, Fo6⟩ := hQ6
    have N6 := Fr.app N0 Nq6
    have HH7 := HH0.keep Kq6 sf0
    have K8 := K0.trans Kq6 all0
    show own_Ends p e below _ (T6.setTop (mkF m 368 #[.val (.int (-15 : Int32)), .val nv, .val (.ref (en 7))] [(.ref op6)]))
    exact own_retAH X6 hx hZ rfl HH7 hEL hlocks hret rfl rfl (hb hby own_d_prog_29_method_6_code_368) (by decide) (by decide) ⟨op6, rfl, N6, by exact ⟨K8, Eo6, (by rw [show own_exp en (-15 : Int32) q = (.ref (en 7)) from by simp [own_exp]]; exact Fo6)⟩⟩
  · refine own_lswHit X0 hx (hb hby own_d_prog_29_method_6_code_1) (by decide) (a := (-9)) (off := 290) (by decide) (by decide) rfl ?_
    refine own_getS X0 hx hZ hown (host := "") (Or.inl (hw _ (List.mem_of_getElem? (i := 106) rfl))) Via.refl e0 ((HS ("UTF8", 7) (List.mem_of_getElem? (i := 7) rfl)).ext O0.2) (hb hby own_d_prog_29_method_6_code_291) rfl ?_
    intro T9 X9 e9
    refine own_goto X9 hx (hb hby own_d_prog_29_method_6_code_294) (by decide) rfl ?_
    refine own_astoreN X9 hx #[.val (.int (-9 : Int32)), .val nv, .val (.ref (en 7))] (hb hby own_d_prog_29_method_6_code_363) rfl rfl rfl ?_
    refine own_aloadN X9 hx (hb hby own_d_prog_29_method_6_code_364) rfl rfl rfl ?_
    refine own_static X9 hx hZ (y := (⟨"java/util/Optional", "ofNullable", "(Ljava/lang/Object;)Ljava/util/Optional;"⟩ : MethodName)) hown (hw _ (List.mem_of_getElem? (i := 41) rfl)) (hw _ (List.mem_of_getElem? (i := 42) rfl)) (hw _ (List.mem_of_getElem? (i := 43) rfl)) (hw _ (List.mem_of_getElem? (i := 44) rfl)) (by decide) e9 (by decide) (W := 0) (by decide) (by decide) (by decide) [(.ref (en 7))] [] (by rw [hml]; rfl) (own_ofNullable l Z a0 hw em (.ref (en 7)) h0 n0 rfl O0 SE XE FE) own_pd4 rfl rfl rfl (hb hby own_d_prog_29_method_6_code_365) rfl ?_
    intro v10 T10 L10 X10 hQ10
    obtain ⟨op10, rfl, Nq10, Kq10, Eo10, Fo10⟩ := hQ10
    have N10 := Fr.app N0 Nq10
    have HH11 := HH0.keep Kq10 sf0
    have K12 := K0.trans Kq10 all0
    show own_Ends p e below _ (T10.setTop (mkF m 368 #[.val (.int (-9 : Int32)), .val nv, .val (.ref (en 7))] [(.ref op10)]))
    exact own_retAH X10 hx hZ rfl HH11 hEL hlocks hret rfl rfl (hb hby own_d_prog_29_method_6_code_368) (by decide) (by decide) ⟨op10, rfl, N10, by exact ⟨K12, Eo10, (by rw [show own_exp en (-9 : Int32) q = (.ref (en 7)) from by simp [own_exp]]; exact Fo10)⟩⟩
  · refine own_lswHit X0 hx (hb hby own_d_prog_29_method_6_code_1) (by decide) (a := (-7)) (off := 271) (by decide) (by decide) rfl ?_
    refine own_ldcS X0 hx hZ hown (hw _ (List.mem_of_getElem? (i := 134) rfl)) hwS e0 HH0 hEL (List.mem_of_getElem? (i := 2) rfl) (vs := ((([98, 111, 111, 108] : List Int32).map StrChars.lo8).map Value.int)) (z := (4 : Int32)) (by decide +kernel) (by decide) (by decide) (hb hby own_d_prog_29_method_6_code_272) 16 (by decide) (by decide) (by decide) (by decide) rfl ?_
    intro ls13 T13 h13 lt13 k13 X13 e13 E13 hZ hown HH13 A13 Ex13 Fc13 Fv13 V13 ne13
    have K14 := K0.ext E13
    refine own_aloadN X13 hx (hb hby own_d_prog_29_method_6_code_274) rfl SN.isref rfl ?_
    have f15 := (SN.ext E13)
    have f16 := (O0.ext E13)
    refine own_virtualB X13 hx hZ (y := (⟨"java/lang/String", "equals", "(Ljava/lang/Object;)Z"⟩ : MethodName)) (z := (⟨"java/lang/String", "equals", "(Ljava/lang/Object;)Z"⟩ : MethodName)) hown (hw _ (List.mem_of_getElem? (i := 70) rfl)) (hw _ (List.mem_of_getElem? (i := 18) rfl)) (notFace_of_selects (args := #[]) (mvT hZ (hw _ (List.mem_of_getElem? (i := 20) rfl)))) (hw _ (List.mem_of_getElem? (i := 20) rfl)) (hw _ (List.mem_of_getElem? (i := 19) rfl)) (by decide) e13 (W := 0) (ce := 0) (sl := 0) (by decide) (by decide) [nv] [] (by rw [hml]; rfl) Ex13 (fun v h' L => v = some (.int (q ([98, 111, 111, 108] : List Int32))) ∧ L = [] ∧ h' = h13) (own_eqSN (W := 0) hZ hw (cs := ([98, 111, 111, 108] : List Int32)) ⟨_, _, _, _, _, Ex13, Fv13, Fc13, V13, (StrChars.Road.codOf (cs := [98, 111, 111, 108]) (n := 4) rfl (by decide)), (by decide), (Nat.le_of_ble_eq_true rfl)⟩ f15 (SC.ext f16.2) hzc (by decide) (by decide)) own_pd3 rfl rfl rfl (hb hby own_d_prog_29_method_6_code_275) rfl ?_
    intro v17 T17 L17 X17 hQ17
    obtain ⟨rfl, rfl, hh17⟩ := hQ17
    have N17 := Fr.app N0 (Fr.nil n0)
    show own_Ends p e below _ (T17.setTop (mkF m 278 #[.val (.int (-7 : Int32)), .val nv, .unset] [(.int (q ([98, 111, 111, 108] : List Int32)))]))
    refine own_if_eq X17 hx (hb hby own_d_prog_29_method_6_code_278) (by decide) rfl rfl (fun hc278_18 => ?_) (fun hc278_18 => ?_)
    · refine own_aconst_null X17 hx (hb hby own_d_prog_29_method_6_code_287) rfl ?_
      refine own_goto X17 hx (hb hby own_d_prog_29_method_6_code_288) (by decide) rfl ?_
      refine own_astoreN X17 hx #[.val (.int (-7 : Int32)), .val nv, .val .null] (hb hby own_d_prog_29_method_6_code_363) rfl rfl rfl ?_
      refine own_aloadN X17 hx (hb hby own_d_prog_29_method_6_code_364) rfl rfl rfl ?_
      refine own_static X17 hx hZ (y := (⟨"java/util/Optional", "ofNullable", "(Ljava/lang/Object;)Ljava/util/Optional;"⟩ : MethodName)) hown (hw _ (List.mem_of_getElem? (i := 41) rfl)) (hw _ (List.mem_of_getElem? (i := 42) rfl)) (hw _ (List.mem_of_getElem? (i := 43) rfl)) (hw _ (List.mem_of_getElem? (i := 44) rfl)) (by decide) hh17 (by decide) (W := 0) (by decide) (by decide) (by decide) [.null] [] (by rw [hml]; rfl) (own_ofNullable l Z a0 hw em .null h13 n0 rfl f16 SE XE FE) own_pd4 rfl rfl rfl (hb hby own_d_prog_29_method_6_code_365) rfl ?_
      intro v19 T19 L19 X19 hQ19
      obtain ⟨op19, rfl, Nq19, Kq19, Eo19, Fo19⟩ := hQ19
      have N19 := Fr.app N17 Nq19
      have HH20 := HH13.keep Kq19 sf0
      have K21 := K14.trans Kq19 all0
      show own_Ends p e below _ (T19.setTop (mkF m 368 #[.val (.int (-7 : Int32)), .val nv, .val .null] [(.ref op19)]))
      exact own_retAH X19 hx hZ rfl HH20 hEL hlocks hret rfl rfl (hb hby own_d_prog_29_method_6_code_368) (by decide) (by decide) ⟨op19, rfl, N19, by exact ⟨K21, Eo19, (by rw [show own_exp en (-7 : Int32) q = .null from by simp [own_exp, hc278_18]]; exact Fo19)⟩⟩
    · refine own_getS X17 hx hZ hown (host := "") (Or.inl (hw _ (List.mem_of_getElem? (i := 119) rfl))) Via.refl hh17 ((HS ("BOOLEAN", 6) (List.mem_of_getElem? (i := 6) rfl)).ext f16.2) (hb hby own_d_prog_29_method_6_code_281) rfl ?_
      intro T22 X22 e22
      refine own_goto X22 hx (hb hby own_d_prog_29_method_6_code_284) (by decide) rfl ?_
      refine own_astoreN X22 hx #[.val (.int (-7 : Int32)), .val nv, .val (.ref (en 6))] (hb hby own_d_prog_29_method_6_code_363) rfl rfl rfl ?_
      refine own_aloadN X22 hx (hb hby own_d_prog_29_method_6_code_364) rfl rfl rfl ?_
      refine own_static X22 hx hZ (y := (⟨"java/util/Optional", "ofNullable", "(Ljava/lang/Object;)Ljava/util/Optional;"⟩ : MethodName)) hown (hw _ (List.mem_of_getElem? (i := 41) rfl)) (hw _ (List.mem_of_getElem? (i := 42) rfl)) (hw _ (List.mem_of_getElem? (i := 43) rfl)) (hw _ (List.mem_of_getElem? (i := 44) rfl)) (by decide) e22 (by decide) (W := 0) (by decide) (by decide) (by decide) [(.ref (en 6))] [] (by rw [hml]; rfl) (own_ofNullable l Z a0 hw em (.ref (en 6)) h13 n0 rfl f16 SE XE FE) own_pd4 rfl rfl rfl (hb hby own_d_prog_29_method_6_code_365) rfl ?_
      intro v23 T23 L23 X23 hQ23
      obtain ⟨op23, rfl, Nq23, Kq23, Eo23, Fo23⟩ := hQ23
      have N23 := Fr.app N17 Nq23
      have HH24 := HH13.keep Kq23 sf0
      have K25 := K14.trans Kq23 all0
      show own_Ends p e below _ (T23.setTop (mkF m 368 #[.val (.int (-7 : Int32)), .val nv, .val (.ref (en 6))] [(.ref op23)]))
      exact own_retAH X23 hx hZ rfl HH24 hEL hlocks hret rfl rfl (hb hby own_d_prog_29_method_6_code_368) (by decide) (by decide) ⟨op23, rfl, N23, by exact ⟨K25, Eo23, (by rw [show own_exp en (-7 : Int32) q = (.ref (en 6)) from by simp [own_exp, hc278_18]]; exact Fo23)⟩⟩
  · refine own_lswHit X0 hx (hb hby own_d_prog_29_method_6_code_1) (by decide) (a := (-5)) (off := 215) (by decide) (by decide) rfl ?_
    refine own_ldcS X0 hx hZ hown (hw _ (List.mem_of_getElem? (i := 109) rfl)) hwS e0 HH0 hEL (List.mem_of_getElem? (i := 0) rfl) (vs := ((([111, 105, 100] : List Int32).map StrChars.lo8).map Value.int)) (z := (3 : Int32)) (by decide +kernel) (by decide) (by decide) (hb hby own_d_prog_29_method_6_code_216) 12 (by decide) (by decide) (by decide) (by decide) rfl ?_
    intro ls26 T26 h26 lt26 k26 X26 e26 E26 hZ hown HH26 A26 Ex26 Fc26 Fv26 V26 ne26
    have K27 := K0.ext E26
    refine own_aloadN X26 hx (hb hby own_d_prog_29_method_6_code_218) rfl SN.isref rfl ?_
    have f28 := (SN.ext E26)
    have f29 := (O0.ext E26)
    refine own_virtualB X26 hx hZ (y := (⟨"java/lang/String", "equals", "(Ljava/lang/Object;)Z"⟩ : MethodName)) (z := (⟨"java/lang/String", "equals", "(Ljava/lang/Object;)Z"⟩ : MethodName)) hown (hw _ (List.mem_of_getElem? (i := 70) rfl)) (hw _ (List.mem_of_getElem? (i := 18) rfl)) (notFace_of_selects (args := #[]) (mvT hZ (hw _ (List.mem_of_getElem? (i := 20) rfl)))) (hw _ (List.mem_of_getElem? (i := 20) rfl)) (hw _ (List.mem_of_getElem? (i := 19) rfl)) (by decide) e26 (W := 0) (ce := 0) (sl := 0) (by decide) (by decide) [nv] [] (by rw [hml]; rfl) Ex26 (fun v h' L => v = some (.int (q ([111, 105, 100] : List Int32))) ∧ L = [] ∧ h' = h26) (own_eqSN (W := 0) hZ hw (cs := ([111, 105, 100] : List Int32)) ⟨_, _, _, _, _, Ex26, Fv26, Fc26, V26, (StrChars.Road.codOf (cs := [111, 105, 100]) (n := 3) rfl (by decide)), (by decide), (Nat.le_of_ble_eq_true rfl)⟩ f28 (SC.ext f29.2) hzc (by decide) (by decide)) own_pd3 rfl rfl rfl (hb hby own_d_prog_29_method_6_code_219) rfl ?_
    intro v30 T30 L30 X30 hQ30
    obtain ⟨rfl, rfl, hh30⟩ := hQ30
    have N30 := Fr.app N0 (Fr.nil n0)
    show own_Ends p e below _ (T30.setTop (mkF m 222 #[.val (.int (-5 : Int32)), .val nv, .unset] [(.int (q ([111, 105, 100] : List Int32)))]))
    refine own_if_eq X30 hx (hb hby own_d_prog_29_method_6_code_222) (by decide) rfl rfl (fun hc222_31 => ?_) (fun hc222_31 => ?_)
    · refine own_getS X30 hx hZ hown (host := "") (Or.inl (hw _ (List.mem_of_getElem? (i := 110) rfl))) Via.refl hh30 ((HS ("INT64", 2) (List.mem_of_getElem? (i := 2) rfl)).ext f29.2) (hb hby own_d_prog_29_method_6_code_229) rfl ?_
      intro T32 X32 e32
      refine own_goto X32 hx (hb hby own_d_prog_29_method_6_code_232) (by decide) rfl ?_
      refine own_astoreN X32 hx #[.val (.int (-5 : Int32)), .val nv, .val (.ref (en 2))] (hb hby own_d_prog_29_method_6_code_363) rfl rfl rfl ?_
      refine own_aloadN X32 hx (hb hby own_d_prog_29_method_6_code_364) rfl rfl rfl ?_
      refine own_static X32 hx hZ (y := (⟨"java/util/Optional", "ofNullable", "(Ljava/lang/Object;)Ljava/util/Optional;"⟩ : MethodName)) hown (hw _ (List.mem_of_getElem? (i := 41) rfl)) (hw _ (List.mem_of_getElem? (i := 42) rfl)) (hw _ (List.mem_of_getElem? (i := 43) rfl)) (hw _ (List.mem_of_getElem? (i := 44) rfl)) (by decide) e32 (by decide) (W := 0) (by decide) (by decide) (by decide) [(.ref (en 2))] [] (by rw [hml]; rfl) (own_ofNullable l Z a0 hw em (.ref (en 2)) h26 n0 rfl f29 SE XE FE) own_pd4 rfl rfl rfl (hb hby own_d_prog_29_method_6_code_365) rfl ?_
      intro v33 T33 L33 X33 hQ33
      obtain ⟨op33, rfl, Nq33, Kq33, Eo33, Fo33⟩ := hQ33
      have N33 := Fr.app N30 Nq33
      have HH34 := HH26.keep Kq33 sf0
      have K35 := K27.trans Kq33 all0
      show own_Ends p e below _ (T33.setTop (mkF m 368 #[.val (.int (-5 : Int32)), .val nv, .val (.ref (en 2))] [(.ref op33)]))
      exact own_retAH X33 hx hZ rfl HH34 hEL hlocks hret rfl rfl (hb hby own_d_prog_29_method_6_code_368) (by decide) (by decide) ⟨op33, rfl, N33, by exact ⟨K35, Eo33, (by rw [show own_exp en (-5 : Int32) q = (.ref (en 2)) from by simp [own_exp, hc222_31]]; exact Fo33)⟩⟩
    · refine own_aconst_null X30 hx (hb hby own_d_prog_29_method_6_code_225) rfl ?_
      refine own_goto X30 hx (hb hby own_d_prog_29_method_6_code_226) (by decide) rfl ?_
      refine own_astoreN X30 hx #[.val (.int (-5 : Int32)), .val nv, .val .null] (hb hby own_d_prog_29_method_6_code_363) rfl rfl rfl ?_
      refine own_aloadN X30 hx (hb hby own_d_prog_29_method_6_code_364) rfl rfl rfl ?_
      refine own_static X30 hx hZ (y := (⟨"java/util/Optional", "ofNullable", "(Ljava/lang/Object;)Ljava/util/Optional;"⟩ : MethodName)) hown (hw _ (List.mem_of_getElem? (i := 41) rfl)) (hw _ (List.mem_of_getElem? (i := 42) rfl)) (hw _ (List.mem_of_getElem? (i := 43) rfl)) (hw _ (List.mem_of_getElem? (i := 44) rfl)) (by decide) hh30 (by decide) (W := 0) (by decide) (by decide) (by decide) [.null] [] (by rw [hml]; rfl) (own_ofNullable l Z a0 hw em .null h26 n0 rfl f29 SE XE FE) own_pd4 rfl rfl rfl (hb hby own_d_prog_29_method_6_code_365) rfl ?_
      intro v36 T36 L36 X36 hQ36
      obtain ⟨op36, rfl, Nq36, Kq36, Eo36, Fo36⟩ := hQ36
      have N36 := Fr.app N30 Nq36
      have HH37 := HH26.keep Kq36 sf0
      have K38 := K27.trans Kq36 all0
      show own_Ends p e below _ (T36.setTop (mkF m 368 #[.val (.int (-5 : Int32)), .val nv, .val .null] [(.ref op36)]))
      exact own_retAH X36 hx hZ rfl HH37 hEL hlocks hret rfl rfl (hb hby own_d_prog_29_method_6_code_368) (by decide) (by decide) ⟨op36, rfl, N36, by exact ⟨K38, Eo36, (by rw [show own_exp en (-5 : Int32) q = .null from by simp [own_exp, hc222_31]]; exact Fo36)⟩⟩
  · refine own_lswHit X0 hx (hb hby own_d_prog_29_method_6_code_1) (by decide) (a := (-4)) (off := 348) (by decide) (by decide) rfl ?_
    refine own_getS X0 hx hZ hown (host := "") (Or.inl (hw _ (List.mem_of_getElem? (i := 116) rfl))) Via.refl e0 ((HS ("BYTES", 12) (List.mem_of_getElem? (i := 12) rfl)).ext O0.2) (hb hby own_d_prog_29_method_6_code_349) rfl ?_
    intro T39 X39 e39
    refine own_goto X39 hx (hb hby own_d_prog_29_method_6_code_352) (by decide) rfl ?_
    refine own_astoreN X39 hx #[.val (.int (-4 : Int32)), .val nv, .val (.ref (en 12))] (hb hby own_d_prog_29_method_6_code_363) rfl rfl rfl ?_
    refine own_aloadN X39 hx (hb hby own_d_prog_29_method_6_code_364) rfl rfl rfl ?_
    refine own_static X39 hx hZ (y := (⟨"java/util/Optional", "ofNullable", "(Ljava/lang/Object;)Ljava/util/Optional;"⟩ : MethodName)) hown (hw _ (List.mem_of_getElem? (i := 41) rfl)) (hw _ (List.mem_of_getElem? (i := 42) rfl)) (hw _ (List.mem_of_getElem? (i := 43) rfl)) (hw _ (List.mem_of_getElem? (i := 44) rfl)) (by decide) e39 (by decide) (W := 0) (by decide) (by decide) (by decide) [(.ref (en 12))] [] (by rw [hml]; rfl) (own_ofNullable l Z a0 hw em (.ref (en 12)) h0 n0 rfl O0 SE XE FE) own_pd4 rfl rfl rfl (hb hby own_d_prog_29_method_6_code_365) rfl ?_
    intro v40 T40 L40 X40 hQ40
    obtain ⟨op40, rfl, Nq40, Kq40, Eo40, Fo40⟩ := hQ40
    have N40 := Fr.app N0 Nq40
    have HH41 := HH0.keep Kq40 sf0
    have K42 := K0.trans Kq40 all0
    show own_Ends p e below _ (T40.setTop (mkF m 368 #[.val (.int (-4 : Int32)), .val nv, .val (.ref (en 12))] [(.ref op40)]))
    exact own_retAH X40 hx hZ rfl HH41 hEL hlocks hret rfl rfl (hb hby own_d_prog_29_method_6_code_368) (by decide) (by decide) ⟨op40, rfl, N40, by exact ⟨K42, Eo40, (by rw [show own_exp en (-4 : Int32) q = (.ref (en 12)) from by simp [own_exp]]; exact Fo40)⟩⟩
  · refine own_lswHit X0 hx (hb hby own_d_prog_29_method_6_code_1) (by decide) (a := (-3)) (off := 348) (by decide) (by decide) rfl ?_
    refine own_getS X0 hx hZ hown (host := "") (Or.inl (hw _ (List.mem_of_getElem? (i := 116) rfl))) Via.refl e0 ((HS ("BYTES", 12) (List.mem_of_getElem? (i := 12) rfl)).ext O0.2) (hb hby own_d_prog_29_method_6_code_349) rfl ?_
    intro T43 X43 e43
    refine own_goto X43 hx (hb hby own_d_prog_29_method_6_code_352) (by decide) rfl ?_
    refine own_astoreN X43 hx #[.val (.int (-3 : Int32)), .val nv, .val (.ref (en 12))] (hb hby own_d_prog_29_method_6_code_363) rfl rfl rfl ?_
    refine own_aloadN X43 hx (hb hby own_d_prog_29_method_6_code_364) rfl rfl rfl ?_
    refine own_static X43 hx hZ (y := (⟨"java/util/Optional", "ofNullable", "(Ljava/lang/Object;)Ljava/util/Optional;"⟩ : MethodName)) hown (hw _ (List.mem_of_getElem? (i := 41) rfl)) (hw _ (List.mem_of_getElem? (i := 42) rfl)) (hw _ (List.mem_of_getElem? (i := 43) rfl)) (hw _ (List.mem_of_getElem? (i := 44) rfl)) (by decide) e43 (by decide) (W := 0) (by decide) (by decide) (by decide) [(.ref (en 12))] [] (by rw [hml]; rfl) (own_ofNullable l Z a0 hw em (.ref (en 12)) h0 n0 rfl O0 SE XE FE) own_pd4 rfl rfl rfl (hb hby own_d_prog_29_method_6_code_365) rfl ?_
    intro v44 T44 L44 X44 hQ44
    obtain ⟨op44, rfl, Nq44, Kq44, Eo44, Fo44⟩ := hQ44
    have N44 := Fr.app N0 Nq44
    have HH45 := HH0.keep Kq44 sf0
    have K46 := K0.trans Kq44 all0
    show own_Ends p e below _ (T44.setTop (mkF m 368 #[.val (.int (-3 : Int32)), .val nv, .val (.ref (en 12))] [(.ref op44)]))
    exact own_retAH X44 hx hZ rfl HH45 hEL hlocks hret rfl rfl (hb hby own_d_prog_29_method_6_code_368) (by decide) (by decide) ⟨op44, rfl, N44, by exact ⟨K46, Eo44, (by rw [show own_exp en (-3 : Int32) q = (.ref (en 12)) from by simp [own_exp]]; exact Fo44)⟩⟩
  · refine own_lswHit X0 hx (hb hby own_d_prog_29_method_6_code_1) (by decide) (a := (-2)) (off := 348) (by decide) (by decide) rfl ?_
    refine own_getS X0 hx hZ hown (host := "") (Or.inl (hw _ (List.mem_of_getElem? (i := 116) rfl))) Via.refl e0 ((HS ("BYTES", 12) (List.mem_of_getElem? (i := 12) rfl)).ext O0.2) (hb hby own_d_prog_29_method_6_code_349) rfl ?_
    intro T47 X47 e47
    refine own_goto X47 hx (hb hby own_d_prog_29_method_6_code_352) (by decide) rfl ?_
    refine own_astoreN X47 hx #[.val (.int (-2 : Int32)), .val nv, .val (.ref (en 12))] (hb hby own_d_prog_29_method_6_code_363) rfl rfl rfl ?_
    refine own_aloadN X47 hx (hb hby own_d_prog_29_method_6_code_364) rfl rfl rfl ?_
    refine own_static X47 hx hZ (y := (⟨"java/util/Optional", "ofNullable", "(Ljava/lang/Object;)Ljava/util/Optional;"⟩ : MethodName)) hown (hw _ (List.mem_of_getElem? (i := 41) rfl)) (hw _ (List.mem_of_getElem? (i := 42) rfl)) (hw _ (List.mem_of_getElem? (i := 43) rfl)) (hw _ (List.mem_of_getElem? (i := 44) rfl)) (by decide) e47 (by decide) (W := 0) (by decide) (by decide) (by decide) [(.ref (en 12))] [] (by rw [hml]; rfl) (own_ofNullable l Z a0 hw em (.ref (en 12)) h0 n0 rfl O0 SE XE FE) own_pd4 rfl rfl rfl (hb hby own_d_prog_29_method_6_code_365) rfl ?_
    intro v48 T48 L48 X48 hQ48
    obtain ⟨op48, rfl, Nq48, Kq48, Eo48, Fo48⟩ := hQ48
    have N48 := Fr.app N0 Nq48
    have HH49 := HH0.keep Kq48 sf0
    have K50 := K0.trans Kq48 all0
    show own_Ends p e below _ (T48.setTop (mkF m 368 #[.val (.int (-2 : Int32)), .val nv, .val (.ref (en 12))] [(.ref op48)]))
    exact own_retAH X48 hx hZ rfl HH49 hEL hlocks hret rfl rfl (hb hby own_d_prog_29_method_6_code_368) (by decide) (by decide) ⟨op48, rfl, N48, by exact ⟨K50, Eo48, (by rw [show own_exp en (-2 : Int32) q = (.ref (en 12)) from by simp [own_exp]]; exact Fo48)⟩⟩
  · refine own_lswHit X0 hx (hb hby own_d_prog_29_method_6_code_1) (by decide) (a := (-1)) (off := 290) (by decide) (by decide) rfl ?_
    refine own_getS X0 hx hZ hown (host := "") (Or.inl (hw _ (List.mem_of_getElem? (i := 106) rfl))) Via.refl e0 ((HS ("UTF8", 7) (List.mem_of_getElem? (i := 7) rfl)).ext O0.2) (hb hby own_d_prog_29_method_6_code_291) rfl ?_
    intro T51 X51 e51
    refine own_goto X51 hx (hb hby own_d_prog_29_method_6_code_294) (by decide) rfl ?_
    refine own_astoreN X51 hx #[.val (.int (-1 : Int32)), .val nv, .val (.ref (en 7))] (hb hby own_d_prog_29_method_6_code_363) rfl rfl rfl ?_
    refine own_aloadN X51 hx (hb hby own_d_prog_29_method_6_code_364) rfl rfl rfl ?_
    refine own_static X51 hx hZ (y := (⟨"java/util/Optional", "ofNullable", "(Ljava/lang/Object;)Ljava/util/Optional;"⟩ : MethodName)) hown (hw _ (List.mem_of_getElem? (i := 41) rfl)) (hw _ (List.mem_of_getElem? (i := 42) rfl)) (hw _ (List.mem_of_getElem? (i := 43) rfl)) (hw _ (List.mem_of_getElem? (i := 44) rfl)) (by decide) e51 (by decide) (W := 0) (by decide) (by decide) (by decide) [(.ref (en 7))] [] (by rw [hml]; rfl) (own_ofNullable l Z a0 hw em (.ref (en 7)) h0 n0 rfl O0 SE XE FE) own_pd4 rfl rfl rfl (hb hby own_d_prog_29_method_6_code_365) rfl ?_
    intro v52 T52 L52 X52 hQ52
    obtain ⟨op52, rfl, Nq52, Kq52, Eo52, Fo52⟩ := hQ52
    have N52 := Fr.app N0 Nq52
    have HH53 := HH0.keep Kq52 sf0
    have K54 := K0.trans Kq52 all0
    show own_Ends p e below _ (T52.setTop (mkF m 368 #[.val (.int (-1 : Int32)), .val nv, .val (.ref (en 7))] [(.ref op52)]))
    exact own_retAH X52 hx hZ rfl HH53 hEL hlocks hret rfl rfl (hb hby own_d_prog_29_method_6_code_368) (by decide) (by decide) ⟨op52, rfl, N52, by exact ⟨K54, Eo52, (by rw [show own_exp en (-1 : Int32) q = (.ref (en 7)) from by simp [own_exp]]; exact Fo52)⟩⟩
  · refine own_lswHit X0 hx (hb hby own_d_prog_29_method_6_code_1) (by decide) (a := 1) (off := 290) (by decide) (by decide) rfl ?_
    refine own_getS X0 hx hZ hown (host := "") (Or.inl (hw _ (List.mem_of_getElem? (i := 106) rfl))) Via.refl e0 ((HS ("UTF8", 7) (List.mem_of_getElem? (i := 7) rfl)).ext O0.2) (hb hby own_d_prog_29_method_6_code_291) rfl ?_
    intro T55 X55 e55
    refine own_goto X55 hx (hb hby own_d_prog_29_method_6_code_294) (by decide) rfl ?_
    refine own_astoreN X55 hx #[.val (.int (1 : Int32)), .val nv, .val (.ref (en 7))] (hb hby own_d_prog_29_method_6_code_363) rfl rfl rfl ?_
    refine own_aloadN X55 hx (hb hby own_d_prog_29_method_6_code_364) rfl rfl rfl ?_
    refine own_static X55 hx hZ (y := (⟨"java/util/Optional", "ofNullable", "(Ljava/lang/Object;)Ljava/util/Optional;"⟩ : MethodName)) hown (hw _ (List.mem_of_getElem? (i := 41) rfl)) (hw _ (List.mem_of_getElem? (i := 42) rfl)) (hw _ (List.mem_of_getElem? (i := 43) rfl)) (hw _ (List.mem_of_getElem? (i := 44) rfl)) (by decide) e55 (by decide) (W := 0) (by decide) (by decide) (by decide) [(.ref (en 7))] [] (by rw [hml]; rfl) (own_ofNullable l Z a0 hw em (.ref (en 7)) h0 n0 rfl O0 SE XE FE) own_pd4 rfl rfl rfl (hb hby own_d_prog_29_method_6_code_365) rfl ?_
    intro v56 T56 L56 X56 hQ56
    obtain ⟨op56, rfl, Nq56, Kq56, Eo56, Fo56⟩ := hQ56
    have N56 := Fr.app N0 Nq56
    have HH57 := HH0.keep Kq56 sf0
    have K58 := K0.trans Kq56 all0
    show own_Ends p e below _ (T56.setTop (mkF m 368 #[.val (.int (1 : Int32)), .val nv, .val (.ref (en 7))] [(.ref op56)]))
    exact own_retAH X56 hx hZ rfl HH57 hEL hlocks hret rfl rfl (hb hby own_d_prog_29_method_6_code_368) (by decide) (by decide) ⟨op56, rfl, N56, by exact ⟨K58, Eo56, (by rw [show own_exp en (1 : Int32) q = (.ref (en 7)) from by simp [own_exp]]; exact Fo56)⟩⟩
  · refine own_lswHit X0 hx (hb hby own_d_prog_29_method_6_code_1) (by decide) (a := 2) (off := 259) (by decide) (by decide) rfl ?_
    refine own_getS X0 hx hZ hown (host := "") (Or.inl (hw _ (List.mem_of_getElem? (i := 91) rfl))) Via.refl e0 ((HS ("DECIMAL", 5) (List.mem_of_getElem? (i := 5) rfl)).ext O0.2) (hb hby own_d_prog_29_method_6_code_260) rfl ?_
    intro T59 X59 e59
    refine own_goto X59 hx (hb hby own_d_prog_29_method_6_code_263) (by decide) rfl ?_
    refine own_astoreN X59 hx #[.val (.int (2 : Int32)), .val nv, .val (.ref (en 5))] (hb hby own_d_prog_29_method_6_code_363) rfl rfl rfl ?_
    refine own_aloadN X59 hx (hb hby own_d_prog_29_method_6_code_364) rfl rfl rfl ?_
    refine own_static X59 hx hZ (y := (⟨"java/util/Optional", "ofNullable", "(Ljava/lang/Object;)Ljava/util/Optional;"⟩ : MethodName)) hown (hw _ (List.mem_of_getElem? (i := 41) rfl)) (hw _ (List.mem_of_getElem? (i := 42) rfl)) (hw _ (List.mem_of_getElem? (i := 43) rfl)) (hw _ (List.mem_of_getElem? (i := 44) rfl)) (by decide) e59 (by decide) (W := 0) (by decide) (by decide) (by decide) [(.ref (en 5))] [] (by rw [hml]; rfl) (own_ofNullable l Z a0 hw em (.ref (en 5)) h0 n0 rfl O0 SE XE FE) own_pd4 rfl rfl rfl (hb hby own_d_prog_29_method_6_code_365) rfl ?_
    intro v60 T60 L60 X60 hQ60
    obtain ⟨op60, rfl, Nq60, Kq60, Eo60, Fo60⟩ := hQ60
    have N60 := Fr.app N0 Nq60
    have HH61 := HH0.keep Kq60 sf0
    have K62 := K0.trans Kq60 all0
    show own_Ends p e below _ (T60.setTop (mkF m 368 #[.val (.int (2 : Int32)), .val nv, .val (.ref (en 5))] [(.ref op60)]))
    exact own_retAH X60 hx hZ rfl HH61 hEL hlocks hret rfl rfl (hb hby own_d_prog_29_method_6_code_368) (by decide) (by decide) ⟨op60, rfl, N60, by exact ⟨K62, Eo60, (by rw [show own_exp en (2 : Int32) q = (.ref (en 5)) from by simp [own_exp]]; exact Fo60)⟩⟩
  · refine own_lswHit X0 hx (hb hby own_d_prog_29_method_6_code_1) (by decide) (a := 3) (off := 259) (by decide) (by decide) rfl ?_
    refine own_getS X0 hx hZ hown (host := "") (Or.inl (hw _ (List.mem_of_getElem? (i := 91) rfl))) Via.refl e0 ((HS ("DECIMAL", 5) (List.mem_of_getElem? (i := 5) rfl)).ext O0.2) (hb hby own_d_prog_29_method_6_code_260) rfl ?_
    intro T63 X63 e63
    refine own_goto X63 hx (hb hby own_d_prog_29_method_6_code_263) (by decide) rfl ?_
    refine own_astoreN X63 hx #[.val (.int (3 : Int32)), .val nv, .val (.ref (en 5))] (hb hby own_d_prog_29_method_6_code_363) rfl rfl rfl ?_
    refine own_aloadN X63 hx (hb hby own_d_prog_29_method_6_code_364) rfl rfl rfl ?_
    refine own_static X63 hx hZ (y := (⟨"java/util/Optional", "ofNullable", "(Ljava/lang/Object;)Ljava/util/Optional;"⟩ : MethodName)) hown (hw _ (List.mem_of_getElem? (i := 41) rfl)) (hw _ (List.mem_of_getElem? (i := 42) rfl)) (hw _ (List.mem_of_getElem? (i := 43) rfl)) (hw _ (List.mem_of_getElem? (i := 44) rfl)) (by decide) e63 (by decide) (W := 0) (by decide) (by decide) (by decide) [(.ref (en 5))] [] (by rw [hml]; rfl) (own_ofNullable l Z a0 hw em (.ref (en 5)) h0 n0 rfl O0 SE XE FE) own_pd4 rfl rfl rfl (hb hby own_d_prog_29_method_6_code_365) rfl ?_
    intro v64 T64 L64 X64 hQ64
    obtain ⟨op64, rfl, Nq64, Kq64, Eo64, Fo64⟩ := hQ64
    have N64 := Fr.app N0 Nq64
    have HH65 := HH0.keep Kq64 sf0
    have K66 := K0.trans Kq64 all0
    show own_Ends p e below _ (T64.setTop (mkF m 368 #[.val (.int (3 : Int32)), .val nv, .val (.ref (en 5))] [(.ref op64)]))
    exact own_retAH X64 hx hZ rfl HH65 hEL hlocks hret rfl rfl (hb hby own_d_prog_29_method_6_code_368) (by decide) (by decide) ⟨op64, rfl, N64, by exact ⟨K66, Eo64, (by rw [show own_exp en (3 : Int32) q = (.ref (en 5)) from by simp [own_exp]]; exact Fo64)⟩⟩
  · refine own_lswHit X0 hx (hb hby own_d_prog_29_method_6_code_1) (by decide) (a := 4) (off := 209) (by decide) (by decide) rfl ?_
    refine own_getS X0 hx hZ hown (host := "") (Or.inl (hw _ (List.mem_of_getElem? (i := 113) rfl))) Via.refl e0 ((HS ("INT32", 1) (List.mem_of_getElem? (i := 1) rfl)).ext O0.2) (hb hby own_d_prog_29_method_6_code_210) rfl ?_
    intro T67 X67 e67
    refine own_goto X67 hx (hb hby own_d_prog_29_method_6_code_213) (by decide) rfl ?_
    refine own_astoreN X67 hx #[.val (.int (4 : Int32)), .val nv, .val (.ref (en 1))] (hb hby own_d_prog_29_method_6_code_363) rfl rfl rfl ?_
    refine own_aloadN X67 hx (hb hby own_d_prog_29_method_6_code_364) rfl rfl rfl ?_
    refine own_static X67 hx hZ (y := (⟨"java/util/Optional", "ofNullable", "(Ljava/lang/Object;)Ljava/util/Optional;"⟩ : MethodName)) hown (hw _ (List.mem_of_getElem? (i := 41) rfl)) (hw _ (List.mem_of_getElem? (i := 42) rfl)) (hw _ (List.mem_of_getElem? (i := 43) rfl)) (hw _ (List.mem_of_getElem? (i := 44) rfl)) (by decide) e67 (by decide) (W := 0) (by decide) (by decide) (by decide) [(.ref (en 1))] [] (by rw [hml]; rfl) (own_ofNullable l Z a0 hw em (.ref (en 1)) h0 n0 rfl O0 SE XE FE) own_pd4 rfl rfl rfl (hb hby own_d_prog_29_method_6_code_365) rfl ?_
    intro v68 T68 L68 X68 hQ68
    obtain ⟨op68, rfl, Nq68, Kq68, Eo68, Fo68⟩ := hQ68
    have N68 := Fr.app N0 Nq68
    have HH69 := HH0.keep Kq68 sf0
    have K70 := K0.trans Kq68 all0
    show own_Ends p e below _ (T68.setTop (mkF m 368 #[.val (.int (4 : Int32)), .val nv, .val (.ref (en 1))] [(.ref op68)]))
    exact own_retAH X68 hx hZ rfl HH69 hEL hlocks hret rfl rfl (hb hby own_d_prog_29_method_6_code_368) (by decide) (by decide) ⟨op68, rfl, N68, by exact ⟨K70, Eo68, (by rw [show own_exp en (4 : Int32) q = (.ref (en 1)) from by simp [own_exp]]; exact Fo68)⟩⟩
  · refine own_lswHit X0 hx (hb hby own_d_prog_29_method_6_code_1) (by decide) (a := 5) (off := 203) (by decide) (by decide) rfl ?_
    refine own_getS X0 hx hZ hown (host := "") (Or.inl (hw _ (List.mem_of_getElem? (i := 103) rfl))) Via.refl e0 ((HS ("INT16", 0) (List.mem_of_getElem? (i := 0) rfl)).ext O0.2) (hb hby own_d_prog_29_method_6_code_204) rfl ?_
    intro T71 X71 e71
    refine own_goto X71 hx (hb hby own_d_prog_29_method_6_code_207) (by decide) rfl ?_
    refine own_astoreN X71 hx #[.val (.int (5 : Int32)), .val nv, .val (.ref (en 0))] (hb hby own_d_prog_29_method_6_code_363) rfl rfl rfl ?_
    refine own_aloadN X71 hx (hb hby own_d_prog_29_method_6_code_364) rfl rfl rfl ?_
    refine own_static X71 hx hZ (y := (⟨"java/util/Optional", "ofNullable", "(Ljava/lang/Object;)Ljava/util/Optional;"⟩ : MethodName)) hown (hw _ (List.mem_of_getElem? (i := 41) rfl)) (hw _ (List.mem_of_getElem? (i := 42) rfl)) (hw _ (List.mem_of_getElem? (i := 43) rfl)) (hw _ (List.mem_of_getElem? (i := 44) rfl)) (by decide) e71 (by decide) (W := 0) (by decide) (by decide) (by decide) [(.ref (en 0))] [] (by rw [hml]; rfl) (own_ofNullable l Z a0 hw em (.ref (en 0)) h0 n0 rfl O0 SE XE FE) own_pd4 rfl rfl rfl (hb hby own_d_prog_29_method_6_code_365) rfl ?_
    intro v72 T72 L72 X72 hQ72
    obtain ⟨op72, rfl, Nq72, Kq72, Eo72, Fo72⟩ := hQ72
    have N72 := Fr.app N0 Nq72
    have HH73 := HH0.keep Kq72 sf0
    have K74 := K0.trans Kq72 all0
    show own_Ends p e below _ (T72.setTop (mkF m 368 #[.val (.int (5 : Int32)), .val nv, .val (.ref (en 0))] [(.ref op72)]))
    exact own_retAH X72 hx hZ rfl HH73 hEL hlocks hret rfl rfl (hb hby own_d_prog_29_method_6_code_368) (by decide) (by decide) ⟨op72, rfl, N72, by exact ⟨K74, Eo72, (by rw [show own_exp en (5 : Int32) q = (.ref (en 0)) from by simp [own_exp]]; exact Fo72)⟩⟩
  · refine own_lswHit X0 hx (hb hby own_d_prog_29_method_6_code_1) (by decide) (a := 7) (off := 234) (by decide) (by decide) rfl ?_
    refine own_getS X0 hx hZ hown (host := "") (Or.inl (hw _ (List.mem_of_getElem? (i := 94) rfl))) Via.refl e0 ((HS ("FLOAT32", 3) (List.mem_of_getElem? (i := 3) rfl)).ext O0.2) (hb hby own_d_prog_29_method_6_code_235) rfl ?_
    intro T75 X75 e75
    refine own_goto X75 hx (hb hby own_d_prog_29_method_6_code_238) (by decide) rfl ?_
    refine own_astoreN X75 hx #[.val (.int (7 : Int32)), .val nv, .val (.ref (en 3))] (hb hby own_d_prog_29_method_6_code_363) rfl rfl rfl ?_
    refine own_aloadN X75 hx (hb hby own_d_prog_29_method_6_code_364) rfl rfl rfl ?_
    refine own_static X75 hx hZ (y := (⟨"java/util/Optional", "ofNullable", "(Ljava/lang/Object;)Ljava/util/Optional;"⟩ : MethodName)) hown (hw _ (List.mem_of_getElem? (i := 41) rfl)) (hw _ (List.mem_of_getElem? (i := 42) rfl)) (hw _ (List.mem_of_getElem? (i := 43) rfl)) (hw _ (List.mem_of_getElem? (i := 44) rfl)) (by decide) e75 (by decide) (W := 0) (by decide) (by decide) (by decide) [(.ref (en 3))] [] (by rw [hml]; rfl) (own_ofNullable l Z a0 hw em (.ref (en 3)) h0 n0 rfl O0 SE XE FE) own_pd4 rfl rfl rfl (hb hby own_d_prog_29_method_6_code_365) rfl ?_
    intro v76 T76 L76 X76 hQ76
    obtain ⟨op76, rfl, Nq76, Kq76, Eo76, Fo76⟩ := hQ76
    have N76 := Fr.app N0 Nq76
    have HH77 := HH0.keep Kq76 sf0
    have K78 := K0.trans Kq76 all0
    show own_Ends p e below _ (T76.setTop (mkF m 368 #[.val (.int (7 : Int32)), .val nv, .val (.ref (en 3))] [(.ref op76)]))
    exact own_retAH X76 hx hZ rfl HH77 hEL hlocks hret rfl rfl (hb hby own_d_prog_29_method_6_code_368) (by decide) (by decide) ⟨op76, rfl, N76, by exact ⟨K78, Eo76, (by rw [show own_exp en (7 : Int32) q = (.ref (en 3)) from by simp [own_exp]]; exact Fo76)⟩⟩
  · refine own_lswHit X0 hx (hb hby own_d_prog_29_method_6_code_1) (by decide) (a := 8) (off := 240) (by decide) (by decide) rfl ?_
    refine own_ldcS X0 hx hZ hown (hw _ (List.mem_of_getElem? (i := 69) rfl)) hwS e0 HH0 hEL (List.mem_of_getElem? (i := 1) rfl) (vs := ((([109, 111, 110, 101, 121] : List Int32).map StrChars.lo8).map Value.int)) (z := (5 : Int32)) (by decide +kernel) (by decide) (by decide) (hb hby own_d_prog_29_method_6_code_241) 20 (by decide) (by decide) (by decide) (by decide) rfl ?_
    intro ls79 T79 h79 lt79 k79 X79 e79 E79 hZ hown HH79 A79 Ex79 Fc79 Fv79 V79 ne79
    have K80 := K0.ext E79
    refine own_aloadN X79 hx (hb hby own_d_prog_29_method_6_code_243) rfl SN.isref rfl ?_
    have f81 := (SN.ext E79)
    have f82 := (O0.ext E79)
    refine own_virtualB X79 hx hZ (y := (⟨"java/lang/String", "equals", "(Ljava/lang/Object;)Z"⟩ : MethodName)) (z := (⟨"java/lang/String", "equals", "(Ljava/lang/Object;)Z"⟩ : MethodName)) hown (hw _ (List.mem_of_getElem? (i := 70) rfl)) (hw _ (List.mem_of_getElem? (i := 18) rfl)) (notFace_of_selects (args := #[]) (mvT hZ (hw _ (List.mem_of_getElem? (i := 20) rfl)))) (hw _ (List.mem_of_getElem? (i := 20) rfl)) (hw _ (List.mem_of_getElem? (i := 19) rfl)) (by decide) e79 (W := 0) (ce := 0) (sl := 0) (by decide) (by decide) [nv] [] (by rw [hml]; rfl) Ex79 (fun v h' L => v = some (.int (q ([109, 111, 110, 101, 121] : List Int32))) ∧ L = [] ∧ h' = h79) (own_eqSN (W := 0) hZ hw (cs := ([109, 111, 110, 101, 121] : List Int32)) ⟨_, _, _, _, _, Ex79, Fv79, Fc79, V79, (StrChars.Road.codOf (cs := [109, 111, 110, 101, 121]) (n := 5) rfl (by decide)), (by decide), (Nat.le_of_ble_eq_true rfl)⟩ f81 (SC.ext f82.2) hzc (by decide) (by decide)) own_pd3 rfl rfl rfl (hb hby own_d_prog_29_method_6_code_244) rfl ?_
    intro v83 T83 L83 X83 hQ83
    obtain ⟨rfl, rfl, hh83⟩ := hQ83
    have N83 := Fr.app N0 (Fr.nil n0)
    show own_Ends p e below _ (T83.setTop (mkF m 247 #[.val (.int (8 : Int32)), .val nv, .unset] [(.int (q ([109, 111, 110, 101, 121] : List Int32)))]))
    refine own_if_eq X83 hx (hb hby own_d_prog_29_method_6_code_247) (by decide) rfl rfl (fun hc247_84 => ?_) (fun hc247_84 => ?_)
    · refine own_getS X83 hx hZ hown (host := "") (Or.inl (hw _ (List.mem_of_getElem? (i := 71) rfl))) Via.refl hh83 ((HS ("FLOAT64", 4) (List.mem_of_getElem? (i := 4) rfl)).ext f82.2) (hb hby own_d_prog_29_method_6_code_254) rfl ?_
      intro T85 X85 e85
      refine own_goto X85 hx (hb hby own_d_prog_29_method_6_code_257) (by decide) rfl ?_
      refine own_astoreN X85 hx #[.val (.int (8 : Int32)), .val nv, .val (.ref (en 4))] (hb hby own_d_prog_29_method_6_code_363) rfl rfl rfl ?_
      refine own_aloadN X85 hx (hb hby own_d_prog_29_method_6_code_364) rfl rfl rfl ?_
      refine own_static X85 hx hZ (y := (⟨"java/util/Optional", "ofNullable", "(Ljava/lang/Object;)Ljava/util/Optional;"⟩ : MethodName)) hown (hw _ (List.mem_of_getElem? (i := 41) rfl)) (hw _ (List.mem_of_getElem? (i := 42) rfl)) (hw _ (List.mem_of_getElem? (i := 43) rfl)) (hw _ (List.mem_of_getElem? (i := 44) rfl)) (by decide) e85 (by decide) (W := 0) (by decide) (by decide) (by decide) [(.ref (en 4))] [] (by rw [hml]; rfl) (own_ofNullable l Z a0 hw em (.ref (en 4)) h79 n0 rfl f82 SE XE FE) own_pd4 rfl rfl rfl (hb hby own_d_prog_29_method_6_code_365) rfl ?_
      intro v86 T86 L86 X86 hQ86
      obtain ⟨op86, rfl, Nq86, Kq86, Eo86, Fo86⟩ := hQ86
      have N86 := Fr.app N83 Nq86
      have HH87 := HH79.keep Kq86 sf0
      have K88 := K80.trans Kq86 all0
      show own_Ends p e below _ (T86.setTop (mkF m 368 #[.val (.int (8 : Int32)), .val nv, .val (.ref (en 4))] [(.ref op86)]))
      exact own_retAH X86 hx hZ rfl HH87 hEL hlocks hret rfl rfl (hb hby own_d_prog_29_method_6_code_368) (by decide) (by decide) ⟨op86, rfl, N86, by exact ⟨K88, Eo86, (by rw [show own_exp en (8 : Int32) q = (.ref (en 4)) from by simp [own_exp, hc247_84]]; exact Fo86)⟩⟩
    · refine own_aconst_null X83 hx (hb hby own_d_prog_29_method_6_code_250) rfl ?_
      refine own_goto X83 hx (hb hby own_d_prog_29_method_6_code_251) (by decide) rfl ?_
      refine own_astoreN X83 hx #[.val (.int (8 : Int32)), .val nv, .val .null] (hb hby own_d_prog_29_method_6_code_363) rfl rfl rfl ?_
      refine own_aloadN X83 hx (hb hby own_d_prog_29_method_6_code_364) rfl rfl rfl ?_
      refine own_static X83 hx hZ (y := (⟨"java/util/Optional", "ofNullable", "(Ljava/lang/Object;)Ljava/util/Optional;"⟩ : MethodName)) hown (hw _ (List.mem_of_getElem? (i := 41) rfl)) (hw _ (List.mem_of_getElem? (i := 42) rfl)) (hw _ (List.mem_of_getElem? (i := 43) rfl)) (hw _ (List.mem_of_getElem? (i := 44) rfl)) (by decide) hh83 (by decide) (W := 0) (by decide) (by decide) (by decide) [.null] [] (by rw [hml]; rfl) (own_ofNullable l Z a0 hw em .null h79 n0 rfl f82 SE XE FE) own_pd4 rfl rfl rfl (hb hby own_d_prog_29_method_6_code_365) rfl ?_
      intro v89 T89 L89 X89 hQ89
      obtain ⟨op89, rfl, Nq89, Kq89, Eo89, Fo89⟩ := hQ89
      have N89 := Fr.app N83 Nq89
      have HH90 := HH79.keep Kq89 sf0
      have K91 := K80.trans Kq89 all0
      show own_Ends p e below _ (T89.setTop (mkF m 368 #[.val (.int (8 : Int32)), .val nv, .val .null] [(.ref op89)]))
      exact own_retAH X89 hx hZ rfl HH90 hEL hlocks hret rfl rfl (hb hby own_d_prog_29_method_6_code_368) (by decide) (by decide) ⟨op89, rfl, N89, by exact ⟨K91, Eo89, (by rw [show own_exp en (8 : Int32) q = .null from by simp [own_exp, hc247_84]]; exact Fo89)⟩⟩
  · refine own_lswHit X0 hx (hb hby own_d_prog_29_method_6_code_1) (by decide) (a := 12) (off := 290) (by decide) (by decide) rfl ?_
    refine own_getS X0 hx hZ hown (host := "") (Or.inl (hw _ (List.mem_of_getElem? (i := 106) rfl))) Via.refl e0 ((HS ("UTF8", 7) (List.mem_of_getElem? (i := 7) rfl)).ext O0.2) (hb hby own_d_prog_29_method_6_code_291) rfl ?_
    intro T92 X92 e92
    refine own_goto X92 hx (hb hby own_d_prog_29_method_6_code_294) (by decide) rfl ?_
    refine own_astoreN X92 hx #[.val (.int (12 : Int32)), .val nv, .val (.ref (en 7))] (hb hby own_d_prog_29_method_6_code_363) rfl rfl rfl ?_
    refine own_aloadN X92 hx (hb hby own_d_prog_29_method_6_code_364) rfl rfl rfl ?_
    refine own_static X92 hx hZ (y := (⟨"java/util/Optional", "ofNullable", "(Ljava/lang/Object;)Ljava/util/Optional;"⟩ : MethodName)) hown (hw _ (List.mem_of_getElem? (i := 41) rfl)) (hw _ (List.mem_of_getElem? (i := 42) rfl)) (hw _ (List.mem_of_getElem? (i := 43) rfl)) (hw _ (List.mem_of_getElem? (i := 44) rfl)) (by decide) e92 (by decide) (W := 0) (by decide) (by decide) (by decide) [(.ref (en 7))] [] (by rw [hml]; rfl) (own_ofNullable l Z a0 hw em (.ref (en 7)) h0 n0 rfl O0 SE XE FE) own_pd4 rfl rfl rfl (hb hby own_d_prog_29_method_6_code_365) rfl ?_
    intro v93 T93 L93 X93 hQ93
    obtain ⟨op93, rfl, Nq93, Kq93, Eo93, Fo93⟩ := hQ93
    have N93 := Fr.app N0 Nq93
    have HH94 := HH0.keep Kq93 sf0
    have K95 := K0.trans Kq93 all0
    show own_Ends p e below _ (T93.setTop (mkF m 368 #[.val (.int (12 : Int32)), .val nv, .val (.ref (en 7))] [(.ref op93)]))
    exact own_retAH X93 hx hZ rfl HH94 hEL hlocks hret rfl rfl (hb hby own_d_prog_29_method_6_code_368) (by decide) (by decide) ⟨op93, rfl, N93, by exact ⟨K95, Eo93, (by rw [show own_exp en (12 : Int32) q = (.ref (en 7)) from by simp [own_exp]]; exact Fo93)⟩⟩
  · refine own_lswHit X0 hx (hb hby own_d_prog_29_method_6_code_1) (by decide) (a := 16) (off := 265) (by decide) (by decide) rfl ?_
    refine own_getS X0 hx hZ hown (host := "") (Or.inl (hw _ (List.mem_of_getElem? (i := 119) rfl))) Via.refl e0 ((HS ("BOOLEAN", 6) (List.mem_of_getElem? (i := 6) rfl)).ext O0.2) (hb hby own_d_prog_29_method_6_code_266) rfl ?_
    intro T96 X96 e96
    refine own_goto X96 hx (hb hby own_d_prog_29_method_6_code_269) (by decide) rfl ?_
    refine own_astoreN X96 hx #[.val (.int (16 : Int32)), .val nv, .val (.ref (en 6))] (hb hby own_d_prog_29_method_6_code_363) rfl rfl rfl ?_
    refine own_aloadN X96 hx (hb hby own_d_prog_29_method_6_code_364) rfl rfl rfl ?_
    refine own_static X96 hx hZ (y := (⟨"java/util/Optional", "ofNullable", "(Ljava/lang/Object;)Ljava/util/Optional;"⟩ : MethodName)) hown (hw _ (List.mem_of_getElem? (i := 41) rfl)) (hw _ (List.mem_of_getElem? (i := 42) rfl)) (hw _ (List.mem_of_getElem? (i := 43) rfl)) (hw _ (List.mem_of_getElem? (i := 44) rfl)) (by decide) e96 (by decide) (W := 0) (by decide) (by decide) (by decide) [(.ref (en 6))] [] (by rw [hml]; rfl) (own_ofNullable l Z a0 hw em (.ref (en 6)) h0 n0 rfl O0 SE XE FE) own_pd4 rfl rfl rfl (hb hby own_d_prog_29_method_6_code_365) rfl ?_
    intro v97 T97 L97 X97 hQ97
    obtain ⟨op97, rfl, Nq97, Kq97, Eo97, Fo97⟩ := hQ97
    have N97 := Fr.app N0 Nq97
    have HH98 := HH0.keep Kq97 sf0
    have K99 := K0.trans Kq97 all0
    show own_Ends p e below _ (T97.setTop (mkF m 368 #[.val (.int (16 : Int32)), .val nv, .val (.ref (en 6))] [(.ref op97)]))
    exact own_retAH X97 hx hZ rfl HH98 hEL hlocks hret rfl rfl (hb hby own_d_prog_29_method_6_code_368) (by decide) (by decide) ⟨op97, rfl, N97, by exact ⟨K99, Eo97, (by rw [show own_exp en (16 : Int32) q = (.ref (en 6)) from by simp [own_exp]]; exact Fo97)⟩⟩
  · refine own_lswHit X0 hx (hb hby own_d_prog_29_method_6_code_1) (by decide) (a := 91) (off := 296) (by decide) (by decide) rfl ?_
    refine own_getS X0 hx hZ hown (host := "") (Or.inl (hw _ (List.mem_of_getElem? (i := 122) rfl))) Via.refl e0 ((HS ("DATE", 8) (List.mem_of_getElem? (i := 8) rfl)).ext O0.2) (hb hby own_d_prog_29_method_6_code_297) rfl ?_
    intro T100 X100 e100
    refine own_goto X100 hx (hb hby own_d_prog_29_method_6_code_300) (by decide) rfl ?_
    refine own_astoreN X100 hx #[.val (.int (91 : Int32)), .val nv, .val (.ref (en 8))] (hb hby own_d_prog_29_method_6_code_363) rfl rfl rfl ?_
    refine own_aloadN X100 hx (hb hby own_d_prog_29_method_6_code_364) rfl rfl rfl ?_
    refine own_static X100 hx hZ (y := (⟨"java/util/Optional", "ofNullable", "(Ljava/lang/Object;)Ljava/util/Optional;"⟩ : MethodName)) hown (hw _ (List.mem_of_getElem? (i := 41) rfl)) (hw _ (List.mem_of_getElem? (i := 42) rfl)) (hw _ (List.mem_of_getElem? (i := 43) rfl)) (hw _ (List.mem_of_getElem? (i := 44) rfl)) (by decide) e100 (by decide) (W := 0) (by decide) (by decide) (by decide) [(.ref (en 8))] [] (by rw [hml]; rfl) (own_ofNullable l Z a0 hw em (.ref (en 8)) h0 n0 rfl O0 SE XE FE) own_pd4 rfl rfl rfl (hb hby own_d_prog_29_method_6_code_365) rfl ?_
    intro v101 T101 L101 X101 hQ101
    obtain ⟨op101, rfl, Nq101, Kq101, Eo101, Fo101⟩ := hQ101
    have N101 := Fr.app N0 Nq101
    have HH102 := HH0.keep Kq101 sf0
    have K103 := K0.trans Kq101 all0
    show own_Ends p e below _ (T101.setTop (mkF m 368 #[.val (.int (91 : Int32)), .val nv, .val (.ref (en 8))] [(.ref op101)]))
    exact own_retAH X101 hx hZ rfl HH102 hEL hlocks hret rfl rfl (hb hby own_d_prog_29_method_6_code_368) (by decide) (by decide) ⟨op101, rfl, N101, by exact ⟨K103, Eo101, (by rw [show own_exp en (91 : Int32) q = (.ref (en 8)) from by simp [own_exp]]; exact Fo101)⟩⟩
  · refine own_lswHit X0 hx (hb hby own_d_prog_29_method_6_code_1) (by decide) (a := 92) (off := 302) (by decide) (by decide) rfl ?_
    refine own_ldcS X0 hx hZ hown (hw _ (List.mem_of_getElem? (i := 128) rfl)) hwS e0 HH0 hEL (List.mem_of_getElem? (i := 3) rfl) (vs := ((([116, 105, 109, 101, 116, 122] : List Int32).map StrChars.lo8).map Value.int)) (z := (6 : Int32)) (by decide +kernel) (by decide) (by decide) (hb hby own_d_prog_29_method_6_code_303) 24 (by decide) (by decide) (by decide) (by decide) rfl ?_
    intro ls104 T104 h104 lt104 k104 X104 e104 E104 hZ hown HH104 A104 Ex104 Fc104 Fv104 V104 ne104
    have K105 := K0.ext E104
    refine own_aloadN X104 hx (hb hby own_d_prog_29_method_6_code_305) rfl SN.isref rfl ?_
    have f106 := (SN.ext E104)
    have f107 := (O0.ext E104)
    refine own_virtualB X104 hx hZ (y := (⟨"java/lang/String", "equals", "(Ljava/lang/Object;)Z"⟩ : MethodName)) (z := (⟨"java/lang/String", "equals", "(Ljava/lang/Object;)Z"⟩ : MethodName)) hown (hw _ (List.mem_of_getElem? (i := 70) rfl)) (hw _ (List.mem_of_getElem? (i := 18) rfl)) (notFace_of_selects (args := #[]) (mvT hZ (hw _ (List.mem_of_getElem? (i := 20) rfl)))) (hw _ (List.mem_of_getElem? (i := 20) rfl)) (hw _ (List.mem_of_getElem? (i := 19) rfl)) (by decide) e104 (W := 0) (ce := 0) (sl := 0) (by decide) (by decide) [nv] [] (by rw [hml]; rfl) Ex104 (fun v h' L => v = some (.int (q ([116, 105, 109, 101, 116, 122] : List Int32))) ∧ L = [] ∧ h' = h104) (own_eqSN (W := 0) hZ hw (cs := ([116, 105, 109, 101, 116, 122] : List Int32)) ⟨_, _, _, _, _, Ex104, Fv104, Fc104, V104, (StrChars.Road.codOf (cs := [116, 105, 109, 101, 116, 122]) (n := 6) rfl (by decide)), (by decide), (Nat.le_of_ble_eq_true rfl)⟩ f106 (SC.ext f107.2) hzc (by decide) (by decide)) own_pd3 rfl rfl rfl (hb hby own_d_prog_29_method_6_code_306) rfl ?_
    intro v108 T108 L108 X108 hQ108
    obtain ⟨rfl, rfl, hh108⟩ := hQ108
    have N108 := Fr.app N0 (Fr.nil n0)
    show own_Ends p e below _ (T108.setTop (mkF m 309 #[.val (.int (92 : Int32)), .val nv, .unset] [(.int (q ([116, 105, 109, 101, 116, 122] : List Int32)))]))
    refine own_if_eq X108 hx (hb hby own_d_prog_29_method_6_code_309) (by decide) rfl rfl (fun hc309_109 => ?_) (fun hc309_109 => ?_)
    · refine own_getS X108 hx hZ hown (host := "") (Or.inl (hw _ (List.mem_of_getElem? (i := 129) rfl))) Via.refl hh108 ((HS ("TIME", 9) (List.mem_of_getElem? (i := 9) rfl)).ext f107.2) (hb hby own_d_prog_29_method_6_code_316) rfl ?_
      intro T110 X110 e110
      refine own_goto X110 hx (hb hby own_d_prog_29_method_6_code_319) (by decide) rfl ?_
      refine own_astoreN X110 hx #[.val (.int (92 : Int32)), .val nv, .val (.ref (en 9))] (hb hby own_d_prog_29_method_6_code_363) rfl rfl rfl ?_
      refine own_aloadN X110 hx (hb hby own_d_prog_29_method_6_code_364) rfl rfl rfl ?_
      refine own_static X110 hx hZ (y := (⟨"java/util/Optional", "ofNullable", "(Ljava/lang/Object;)Ljava/util/Optional;"⟩ : MethodName)) hown (hw _ (List.mem_of_getElem? (i := 41) rfl)) (hw _ (List.mem_of_getElem? (i := 42) rfl)) (hw _ (List.mem_of_getElem? (i := 43) rfl)) (hw _ (List.mem_of_getElem? (i := 44) rfl)) (by decide) e110 (by decide) (W := 0) (by decide) (by decide) (by decide) [(.ref (en 9))] [] (by rw [hml]; rfl) (own_ofNullable l Z a0 hw em (.ref (en 9)) h104 n0 rfl f107 SE XE FE) own_pd4 rfl rfl rfl (hb hby own_d_prog_29_method_6_code_365) rfl ?_
      intro v111 T111 L111 X111 hQ111
      obtain ⟨op111, rfl, Nq111, Kq111, Eo111, Fo111⟩ := hQ111
      have N111 := Fr.app N108 Nq111
      have HH112 := HH104.keep Kq111 sf0
      have K113 := K105.trans Kq111 all0
      show own_Ends p e below _ (T111.setTop (mkF m 368 #[.val (.int (92 : Int32)), .val nv, .val (.ref (en 9))] [(.ref op111)]))
      exact own_retAH X111 hx hZ rfl HH112 hEL hlocks hret rfl rfl (hb hby own_d_prog_29_method_6_code_368) (by decide) (by decide) ⟨op111, rfl, N111, by exact ⟨K113, Eo111, (by rw [show own_exp en (92 : Int32) q = (.ref (en 9)) from by simp [own_exp, hc309_109]]; exact Fo111)⟩⟩
    · refine own_aconst_null X108 hx (hb hby own_d_prog_29_method_6_code_312) rfl ?_
      refine own_goto X108 hx (hb hby own_d_prog_29_method_6_code_313) (by decide) rfl ?_
      refine own_astoreN X108 hx #[.val (.int (92 : Int32)), .val nv, .val .null] (hb hby own_d_prog_29_method_6_code_363) rfl rfl rfl ?_
      refine own_aloadN X108 hx (hb hby own_d_prog_29_method_6_code_364) rfl rfl rfl ?_
      refine own_static X108 hx hZ (y := (⟨"java/util/Optional", "ofNullable", "(Ljava/lang/Object;)Ljava/util/Optional;"⟩ : MethodName)) hown (hw _ (List.mem_of_getElem? (i := 41) rfl)) (hw _ (List.mem_of_getElem? (i := 42) rfl)) (hw _ (List.mem_of_getElem? (i := 43) rfl)) (hw _ (List.mem_of_getElem? (i := 44) rfl)) (by decide) hh108 (by decide) (W := 0) (by decide) (by decide) (by decide) [.null] [] (by rw [hml]; rfl) (own_ofNullable l Z a0 hw em .null h104 n0 rfl f107 SE XE FE) own_pd4 rfl rfl rfl (hb hby own_d_prog_29_method_6_code_365) rfl ?_
      intro v114 T114 L114 X114 hQ114
      obtain ⟨op114, rfl, Nq114, Kq114, Eo114, Fo114⟩ := hQ114
      have N114 := Fr.app N108 Nq114
      have HH115 := HH104.keep Kq114 sf0
      have K116 := K105.trans Kq114 all0
      show own_Ends p e below _ (T114.setTop (mkF m 368 #[.val (.int (92 : Int32)), .val nv, .val .null] [(.ref op114)]))
      exact own_retAH X114 hx hZ rfl HH115 hEL hlocks hret rfl rfl (hb hby own_d_prog_29_method_6_code_368) (by decide) (by decide) ⟨op114, rfl, N114, by exact ⟨K116, Eo114, (by rw [show own_exp en (92 : Int32) q = .null from by simp [own_exp, hc309_109]]; exact Fo114)⟩⟩
  · refine own_lswHit X0 hx (hb hby own_d_prog_29_method_6_code_1) (by decide) (a := 93) (off := 321) (by decide) (by decide) rfl ?_
    refine own_ldcS X0 hx hZ hown (hw _ (List.mem_of_getElem? (i := 132) rfl)) hwS e0 HH0 hEL (List.mem_of_getElem? (i := 4) rfl) (vs := ((([116, 105, 109, 101, 115, 116, 97, 109, 112, 116, 122] : List Int32).map StrChars.lo8).map Value.int)) (z := (11 : Int32)) (by decide +kernel) (by decide) (by decide) (hb hby own_d_prog_29_method_6_code_322) 44 (by decide) (by decide) (by decide) (by decide) rfl ?_
    intro ls117 T117 h117 lt117 k117 X117 e117 E117 hZ hown HH117 A117 Ex117 Fc117 Fv117 V117 ne117
    have K118 := K0.ext E117
    refine own_aloadN X117 hx (hb hby own_d_prog_29_method_6_code_324) rfl SN.isref rfl ?_
    have f119 := (SN.ext E117)
    have f120 := (O0.ext E117)
    refine own_virtualB X117 hx hZ (y := (⟨"java/lang/String", "equals", "(Ljava/lang/Object;)Z"⟩ : MethodName)) (z := (⟨"java/lang/String", "equals", "(Ljava/lang/Object;)Z"⟩ : MethodName)) hown (hw _ (List.mem_of_getElem? (i := 70) rfl)) (hw _ (List.mem_of_getElem? (i := 18) rfl)) (notFace_of_selects (args := #[]) (mvT hZ (hw _ (List.mem_of_getElem? (i := 20) rfl)))) (hw _ (List.mem_of_getElem? (i := 20) rfl)) (hw _ (List.mem_of_getElem? (i := 19) rfl)) (by decide) e117 (W := 0) (ce := 0) (sl := 0) (by decide) (by decide) [nv] [] (by rw [hml]; rfl) Ex117 (fun v h' L => v = some (.int (q ([116, 105, 109, 101, 115, 116, 97, 109, 112, 116, 122] : List Int32))) ∧ L = [] ∧ h' = h117) (own_eqSN (W := 0) hZ hw (cs := ([116, 105, 109, 101, 115, 116, 97, 109, 112, 116, 122] : List Int32)) ⟨_, _, _, _, _, Ex117, Fv117, Fc117, V117, (StrChars.Road.codOf (cs := [116, 105, 109, 101, 115, 116, 97, 109, 112, 116, 122]) (n := 11) rfl (by decide)), (by decide), (Nat.le_of_ble_eq_true rfl)⟩ f119 (SC.ext f120.2) hzc (by decide) (by decide)) own_pd3 rfl rfl rfl (hb hby own_d_prog_29_method_6_code_325) rfl ?_
    intro v121 T121 L121 X121 hQ121
    obtain ⟨rfl, rfl, hh121⟩ := hQ121
    have N121 := Fr.app N0 (Fr.nil n0)
    show own_Ends p e below _ (T121.setTop (mkF m 328 #[.val (.int (93 : Int32)), .val nv, .unset] [(.int (q ([116, 105, 109, 101, 115, 116, 97, 109, 112, 116, 122] : List Int32)))]))
    refine own_if_eq X121 hx (hb hby own_d_prog_29_method_6_code_328) (by decide) rfl rfl (fun hc328_122 => ?_) (fun hc328_122 => ?_)
    · refine own_getS X121 hx hZ hown (host := "") (Or.inl (hw _ (List.mem_of_getElem? (i := 133) rfl))) Via.refl hh121 ((HS ("TIMESTAMP", 10) (List.mem_of_getElem? (i := 10) rfl)).ext f120.2) (hb hby own_d_prog_29_method_6_code_337) rfl ?_
      intro T123 X123 e123
      refine own_goto X123 hx (hb hby own_d_prog_29_method_6_code_340) (by decide) rfl ?_
      refine own_astoreN X123 hx #[.val (.int (93 : Int32)), .val nv, .val (.ref (en 10))] (hb hby own_d_prog_29_method_6_code_363) rfl rfl rfl ?_
      refine own_aloadN X123 hx (hb hby own_d_prog_29_method_6_code_364) rfl rfl rfl ?_
      refine own_static X123 hx hZ (y := (⟨"java/util/Optional", "ofNullable", "(Ljava/lang/Object;)Ljava/util/Optional;"⟩ : MethodName)) hown (hw _ (List.mem_of_getElem? (i := 41) rfl)) (hw _ (List.mem_of_getElem? (i := 42) rfl)) (hw _ (List.mem_of_getElem? (i := 43) rfl)) (hw _ (List.mem_of_getElem? (i := 44) rfl)) (by decide) e123 (by decide) (W := 0) (by decide) (by decide) (by decide) [(.ref (en 10))] [] (by rw [hml]; rfl) (own_ofNullable l Z a0 hw em (.ref (en 10)) h117 n0 rfl f120 SE XE FE) own_pd4 rfl rfl rfl (hb hby own_d_prog_29_method_6_code_365) rfl ?_
      intro v124 T124 L124 X124 hQ124
      obtain ⟨op124, rfl, Nq124, Kq124, Eo124, Fo124⟩ := hQ124
      have N124 := Fr.app N121 Nq124
      have HH125 := HH117.keep Kq124 sf0
      have K126 := K118.trans Kq124 all0
      show own_Ends p e below _ (T124.setTop (mkF m 368 #[.val (.int (93 : Int32)), .val nv, .val (.ref (en 10))] [(.ref op124)]))
      exact own_retAH X124 hx hZ rfl HH125 hEL hlocks hret rfl rfl (hb hby own_d_prog_29_method_6_code_368) (by decide) (by decide) ⟨op124, rfl, N124, by exact ⟨K126, Eo124, (by rw [show own_exp en (93 : Int32) q = (.ref (en 10)) from by simp [own_exp, hc328_122]]; exact Fo124)⟩⟩
    · refine own_getS X121 hx hZ hown (host := "") (Or.inl (hw _ (List.mem_of_getElem? (i := 125) rfl))) Via.refl hh121 ((HS ("INSTANT", 11) (List.mem_of_getElem? (i := 11) rfl)).ext f120.2) (hb hby own_d_prog_29_method_6_code_331) rfl ?_
      intro T127 X127 e127
      refine own_goto X127 hx (hb hby own_d_prog_29_method_6_code_334) (by decide) rfl ?_
      refine own_astoreN X127 hx #[.val (.int (93 : Int32)), .val nv, .val (.ref (en 11))] (hb hby own_d_prog_29_method_6_code_363) rfl rfl rfl ?_
      refine own_aloadN X127 hx (hb hby own_d_prog_29_method_6_code_364) rfl rfl rfl ?_
      refine own_static X127 hx hZ (y := (⟨"java/util/Optional", "ofNullable", "(Ljava/lang/Object;)Ljava/util/Optional;"⟩ : MethodName)) hown (hw _ (List.mem_of_getElem? (i := 41) rfl)) (hw _ (List.mem_of_getElem? (i := 42) rfl)) (hw _ (List.mem_of_getElem? (i := 43) rfl)) (hw _ (List.mem_of_getElem? (i := 44) rfl)) (by decide) e127 (by decide) (W := 0) (by decide) (by decide) (by decide) [(.ref (en 11))] [] (by rw [hml]; rfl) (own_ofNullable l Z a0 hw em (.ref (en 11)) h117 n0 rfl f120 SE XE FE) own_pd4 rfl rfl rfl (hb hby own_d_prog_29_method_6_code_365) rfl ?_
      intro v128 T128 L128 X128 hQ128
      obtain ⟨op128, rfl, Nq128, Kq128, Eo128, Fo128⟩ := hQ128
      have N128 := Fr.app N121 Nq128
      have HH129 := HH117.keep Kq128 sf0
      have K130 := K118.trans Kq128 all0
      show own_Ends p e below _ (T128.setTop (mkF m 368 #[.val (.int (93 : Int32)), .val nv, .val (.ref (en 11))] [(.ref op128)]))
      exact own_retAH X128 hx hZ rfl HH129 hEL hlocks hret rfl rfl (hb hby own_d_prog_29_method_6_code_368) (by decide) (by decide) ⟨op128, rfl, N128, by exact ⟨K130, Eo128, (by rw [show own_exp en (93 : Int32) q = (.ref (en 11)) from by simp [own_exp, hc328_122]]; exact Fo128)⟩⟩
  · refine own_lswHit X0 hx (hb hby own_d_prog_29_method_6_code_1) (by decide) (a := 1111) (off := 354) (by decide) (by decide) rfl ?_
    refine own_aloadN X0 hx (hb hby own_d_prog_29_method_6_code_355) rfl SN.isref rfl ?_
    refine own_staticH X0 hx hZ (y := (⟨"com/example/kinfold/kinfold/ValueEncoding", "forOtherType", "(Ljava/lang/String;)Lcom/example/kinfold/kinfold/ValueEncoding;"⟩ : MethodName)) hown (hw _ (List.mem_of_getElem? (i := 95) rfl)) (hw _ (List.mem_of_getElem? (i := 96) rfl)) (hw _ (List.mem_of_getElem? (i := 39) rfl)) (hw _ (List.mem_of_getElem? (i := 97) rfl)) (by decide) HH0 hEL e0 (by decide) (W := 0) (by decide) (by decide) (by decide) [nv] [] (by rw [hml]; rfl) (own_forOther l Z a0 hw zc en em nv q h0 n0 hEL O0 SC hzc HS SE XE FE SN) own_pd5 rfl rfl rfl (hb hby own_d_prog_29_method_6_code_356) rfl ?_
    intro v131 T131 L131 X131 hQ131 hZ hown HH131 A131
    obtain ⟨rfl, Nq131, Kq131⟩ := hQ131
    have N131 := Fr.app N0 Nq131
    have K132 := K0.trans Kq131 all0
    show own_Ends p e below _ (T131.setTop (mkF m 359 #[.val (.int (1111 : Int32)), .val nv, .unset] [(own_exp en (1111 : Int32) q)]))
    refine own_goto X131 hx (hb hby own_d_prog_29_method_6_code_359) (by decide) rfl ?_
    refine own_astoreN X131 hx #[.val (.int (1111 : Int32)), .val nv, .val (own_exp en (1111 : Int32) q)] (hb hby own_d_prog_29_method_6_code_363) (own_expR en (1111 : Int32) q) (own_refE (P := fun vv => storeLocals #[.val (.int (1111 : Int32)), .val nv, .unset] 2 vv = some #[.val (.int (1111 : Int32)), .val nv, .val vv]) (own_expR en (1111 : Int32) q) rfl (fun _ => rfl)) rfl ?_
    refine own_aloadN X131 hx (hb hby own_d_prog_29_method_6_code_364) rfl (own_expR en (1111 : Int32) q) rfl ?_
    have f133 := (O0.keep Kq131 all0)
    refine own_static X131 hx hZ (y := (⟨"java/util/Optional", "ofNullable", "(Ljava/lang/Object;)Ljava/util/Optional;"⟩ : MethodName)) hown (hw _ (List.mem_of_getElem? (i := 41) rfl)) (hw _ (List.mem_of_getElem? (i := 42) rfl)) (hw _ (List.mem_of_getElem? (i := 43) rfl)) (hw _ (List.mem_of_getElem? (i := 44) rfl)) (by decide) rfl (by decide) (W := 0) (by decide) (by decide) (by decide) [(own_exp en (1111 : Int32) q)] [] (by rw [hml]; rfl) (own_ofNullable l Z a0 hw em (own_exp en (1111 : Int32) q) T131.heap n0 (own_expR en (1111 : Int32) q) f133 SE XE FE) own_pd4 rfl rfl rfl (hb hby own_d_prog_29_method_6_code_365) rfl ?_
    intro v134 T134 L134 X134 hQ134
    obtain ⟨op134, rfl, Nq134, Kq134, Eo134, Fo134⟩ := hQ134
    have N134 := Fr.app N131 Nq134
    have HH135 := HH131.keep Kq134 sf0
    have K136 := K132.trans Kq134 all0
    show own_Ends p e below _ (T134.setTop (mkF m 368 #[.val (.int (1111 : Int32)), .val nv, .val (own_exp en (1111 : Int32) q)] [(.ref op134)]))
    exact own_retAH X134 hx hZ rfl HH135 hEL hlocks hret rfl rfl (hb hby own_d_prog_29_method_6_code_368) (by decide) (by decide) ⟨op134, rfl, N134, by exact ⟨K136, Eo134, Fo134⟩⟩
  · refine own_lswHit X0 hx (hb hby own_d_prog_29_method_6_code_1) (by decide) (a := 2004) (off := 348) (by decide) (by decide) rfl ?_
    refine own_getS X0 hx hZ hown (host := "") (Or.inl (hw _ (List.mem_of_getElem? (i := 116) rfl))) Via.refl e0 ((HS ("BYTES", 12) (List.mem_of_getElem? (i := 12) rfl)).ext O0.2) (hb hby own_d_prog_29_method_6_code_349) rfl ?_
    intro T137 X137 e137
    refine own_goto X137 hx (hb hby own_d_prog_29_method_6_code_352) (by decide) rfl ?_
    refine own_astoreN X137 hx #[.val (.int (2004 : Int32)), .val nv, .val (.ref (en 12))] (hb hby own_d_prog_29_method_6_code_363) rfl rfl rfl ?_
    refine own_aloadN X137 hx (hb hby own_d_prog_29_method_6_code_364) rfl rfl rfl ?_
    refine own_static X137 hx hZ (y := (⟨"java/util/Optional", "ofNullable", "(Ljava/lang/Object;)Ljava/util/Optional;"⟩ : MethodName)) hown (hw _ (List.mem_of_getElem? (i := 41) rfl)) (hw _ (List.mem_of_getElem? (i := 42) rfl)) (hw _ (List.mem_of_getElem? (i := 43) rfl)) (hw _ (List.mem_of_getElem? (i := 44) rfl)) (by decide) e137 (by decide) (W := 0) (by decide) (by decide) (by decide) [(.ref (en 12))] [] (by rw [hml]; rfl) (own_ofNullable l Z a0 hw em (.ref (en 12)) h0 n0 rfl O0 SE XE FE) own_pd4 rfl rfl rfl (hb hby own_d_prog_29_method_6_code_365) rfl ?_
    intro v138 T138 L138 X138 hQ138
    obtain ⟨op138, rfl, Nq138, Kq138, Eo138, Fo138⟩ := hQ138
    have N138 := Fr.app N0 Nq138
    have HH139 := HH0.keep Kq138 sf0
    have K140 := K0.trans Kq138 all0
    show own_Ends p e below _ (T138.setTop (mkF m 368 #[.val (.int (2004 : Int32)), .val nv, .val (.ref (en 12))] [(.ref op138)]))
    exact own_retAH X138 hx hZ rfl HH139 hEL hlocks hret rfl rfl (hb hby own_d_prog_29_method_6_code_368) (by decide) (by decide) ⟨op138, rfl, N138, by exact ⟨K140, Eo138, (by rw [show own_exp en (2004 : Int32) q = (.ref (en 12)) from by simp [own_exp]]; exact Fo138)⟩⟩
  · refine own_lswHit X0 hx (hb hby own_d_prog_29_method_6_code_1) (by decide) (a := 2014) (off := 342) (by decide) (by decide) rfl ?_
    refine own_getS X0 hx hZ hown (host := "") (Or.inl (hw _ (List.mem_of_getElem? (i := 125) rfl))) Via.refl e0 ((HS ("INSTANT", 11) (List.mem_of_getElem? (i := 11) rfl)).ext O0.2) (hb hby own_d_prog_29_method_6_code_343) rfl ?_
    intro T141 X141 e141
    refine own_goto X141 hx (hb hby own_d_prog_29_method_6_code_346) (by decide) rfl ?_
    refine own_astoreN X141 hx #[.val (.int (2014 : Int32)), .val nv, .val (.ref (en 11))] (hb hby own_d_prog_29_method_6_code_363) rfl rfl rfl ?_
    refine own_aloadN X141 hx (hb hby own_d_prog_29_method_6_code_364) rfl rfl rfl ?_
    refine own_static X141 hx hZ (y := (⟨"java/util/Optional", "ofNullable", "(Ljava/lang/Object;)Ljava/util/Optional;"⟩ : MethodName)) hown (hw _ (List.mem_of_getElem? (i := 41) rfl)) (hw _ (List.mem_of_getElem? (i := 42) rfl)) (hw _ (List.mem_of_getElem? (i := 43) rfl)) (hw _ (List.mem_of_getElem? (i := 44) rfl)) (by decide) e141 (by decide) (W := 0) (by decide) (by decide) (by decide) [(.ref (en 11))] [] (by rw [hml]; rfl) (own_ofNullable l Z a0 hw em (.ref (en 11)) h0 n0 rfl O0 SE XE FE) own_pd4 rfl rfl rfl (hb hby own_d_prog_29_method_6_code_365) rfl ?_
    intro v142 T142 L142 X142 hQ142
    obtain ⟨op142, rfl, Nq142, Kq142, Eo142, Fo142⟩ := hQ142
    have N142 := Fr.app N0 Nq142
    have HH143 := HH0.keep Kq142 sf0
    have K144 := K0.trans Kq142 all0
    show own_Ends p e below _ (T142.setTop (mkF m 368 #[.val (.int (2014 : Int32)), .val nv, .val (.ref (en 11))] [(.ref op142)]))
    exact own_retAH X142 hx hZ rfl HH143 hEL hlocks hret rfl rfl (hb hby own_d_prog_29_method_6_code_368) (by decide) (by decide) ⟨op142, rfl, N142, by exact ⟨K144, Eo142, (by rw [show own_exp en (2014 : Int32) q = (.ref (en 11)) from by simp [own_exp]]; exact Fo142)⟩⟩
  · refine own_lswMiss X0 hx (hb hby own_d_prog_29_method_6_code_1) (by decide) ?_ (by decide) rfl ?_
    · intro z hz
      simp only [List.mem_cons, List.not_mem_nil, or_false] at hz
      rcases hz with rfl | rfl | rfl | rfl | rfl | rfl | rfl | rfl | rfl | rfl | rfl | rfl | rfl | rfl | rfl | rfl | rfl | rfl | rfl | rfl | rfl | rfl | rfl | rfl
      · exact own_neI (-16 : Int32) (-16) (by decide) nk0
      · exact own_neI (-15 : Int32) (-15) (by decide) nk1
      · exact own_neI (-9 : Int32) (-9) (by decide) nk2
      · exact own_neI (-7 : Int32) (-7) (by decide) nk3
      · exact own_neI (-5 : Int32) (-5) (by decide) nk4
      · exact own_neI (-4 : Int32) (-4) (by decide) nk5
      · exact own_neI (-3 : Int32) (-3) (by decide) nk6
      · exact own_neI (-2 : Int32) (-2) (by decide) nk7
      · exact own_neI (-1 : Int32) (-1) (by decide) nk8
      · exact own_neI (1 : Int32) 1 (by decide) nk9
      · exact own_neI (2 : Int32) 2 (by decide) nk10
      · exact own_neI (3 : Int32) 3 (by decide) nk11
      · exact own_neI (4 : Int32) 4 (by decide) nk12
      · exact own_neI (5 : Int32) 5 (by decide) nk13
      · exact own_neI (7 : Int32) 7 (by decide) nk14
      · exact own_neI (8 : Int32) 8 (by decide) nk15
      · exact own_neI (12 : Int32) 12 (by decide) nk16
      · exact own_neI (16 : Int32) 16 (by decide) nk17
      · exact own_neI (91 : Int32) 91 (by decide) nk18
      · exact own_neI (92 : Int32) 92 (by decide) nk19
      · exact own_neI (93 : Int32) 93 (by decide) nk20
      · exact own_neI (1111 : Int32) 1111 (by decide) nk21
      · exact own_neI (2004 : Int32) 2004 (by decide) nk22
      · exact own_neI (2014 : Int32) 2014 (by decide) nk23
    refine own_aconst_null X0 hx (hb hby own_d_prog_29_method_6_code_362) rfl ?_
    refine own_astoreN X0 hx #[.val (.int t1), .val nv, .val .null] (hb hby own_d_prog_29_method_6_code_363) rfl rfl rfl ?_
    refine own_aloadN X0 hx (hb hby own_d_prog_29_method_6_code_364) rfl rfl rfl ?_
    refine own_static X0 hx hZ (y := (⟨"java/util/Optional", "ofNullable", "(Ljava/lang/Object;)Ljava/util/Optional;"⟩ : MethodName)) hown (hw _ (List.mem_of_getElem? (i := 41) rfl)) (hw _ (List.mem_of_getElem? (i := 42) rfl)) (hw _ (List.mem_of_getElem? (i := 43) rfl)) (hw _ (List.mem_of_getElem? (i := 44) rfl)) (by decide) e0 (by decide) (W := 0) (by decide) (by decide) (by decide) [.null] [] (by rw [hml]; rfl) (own_ofNullable l Z a0 hw em .null h0 n0 rfl O0 SE XE FE) own_pd4 rfl rfl rfl (hb hby own_d_prog_29_method_6_code_365) rfl ?_
    intro v145 T145 L145 X145 hQ145
    obtain ⟨op145, rfl, Nq145, Kq145, Eo145, Fo145⟩ := hQ145
    have N145 := Fr.app N0 Nq145
    have HH146 := HH0.keep Kq145 sf0
    have K147 := K0.trans Kq145 all0
    show own_Ends p e below _ (T145.setTop (mkF m 368 #[.val (.int t1), .val nv, .val .null] [(.ref op145)]))
    exact own_retAH X145 hx hZ rfl HH146 hEL hlocks hret rfl rfl (hb hby own_d_prog_29_method_6_code_368) (by decide) (by decide) ⟨op145, rfl, N145, by exact ⟨K147, Eo145, (by rw [show own_exp en t1 q = .null from by simp only [own_exp, if_neg nk0, if_neg nk1, if_neg nk2, if_neg nk3, if_neg nk4, if_neg nk5, if_neg nk6, if_neg nk7, if_neg nk8, if_neg nk9, if_neg nk10, if_neg nk11, if_neg nk12, if_neg nk13, if_neg nk14, if_neg nk15, if_neg nk16, if_neg nk17, if_neg nk18, if_neg nk19, if_neg nk20, if_neg nk21, if_neg nk22, if_neg nk23]]; exact Fo145)⟩⟩
set_option maxRecDepth 65536 in
set_option maxHeartbeats 40000000 in
theorem own_law (l : Launch) (Z : State) (a0 : Array Value) (hw : ∀ d ∈ tables_1, d.before a0 Z = true) (p1 p2 p3 : Int32) (p4 : Int64) (zc : Int32) (en : Nat → Addr) (em : Addr) (h0 : Heap) (n0 : Nat) (hEL : EW Z a0 consts_1) (O0 : Old Z n0 h0) (SC : Sta Z Z.heap "java/lang/String" "COMPACT_STRINGS" "Z" (.int zc)) (hzc : ¬ zc = 0) (HS : ∀ q ∈ own_names, Sta Z Z.heap "com/example/kinfold/kinfold/ValueEncoding" q.1 "Lcom/example/kinfold/kinfold/ValueEncoding;" (.ref (en q.2))) (SE : Sta Z Z.heap "java/util/Optional" "EMPTY" "Ljava/util/Optional;" (.ref em)) (XE : Exa Z Z.heap em "java/util/Optional") (FE : Fld Z Z.heap em "java/util/Optional" "value" "Ljava/lang/Object;" .null) :
    own_MetH l x code maxLocals ret room_1 Z consts_1 #[(.int p1), (.int p2), (.int p3), (.long p4)] h0 (fun v h L => v = some (.int 1) ∧ Fr n0 L) := by
  refine own_metH (plainFor_of_name own_pn_com_example_kinfold_kinfold_ValueEncodingForTypePinLaw) ?_
  intro p e s m below meth c T0 hx hby hml hZ hown hnm hret hlocks X0 e0 hh0 HH0
  have ef : entryFrame m #[(.int p1), (.int p2), (.int p3), (.long p4)] maxLocals = mkF m 0 #[.val (.int p1), .val (.int p2), .val (.int p3), .val (.long p4), .second, .unset, .unset, .unset, .unset, .unset] [] := by first | (simp [entryFrame, mkF, argsToLocals, Value.category, maxLocals]; done) | rfl
  refine own_entry ef ?_
  have N0 := Fr.nil n0
  have K0 := Keep.refl h0 []
  have hwS := own_hwS hw
  refine own_bipush X0 hx (32 : Int32) (hb hby at_0) (by decide) rfl ?_
  refine own_newP X0 hx hZ (aty := .int) (hw _ (List.mem_of_getElem? (i := 0) rfl)) e0 (hb hby at_2) (by decide) 32 (by decide) (by decide) (by decide) (by decide) rfl ?_
  intro T1 h1 b1 k1 X1 e1 g1 E1 V1q
  have g_b1 : n0 ≤ b1 := Nat.le_trans (own_oz O0) (Nat.le_of_eq g1.symm)
  have sz_b1 : h0.size ≤ b1 := Nat.le_trans K0.1 (Nat.le_of_eq g1.symm)
  have HH2 := HH0.ext E1
  have K3 := K0.ext E1
  have V1 : Arv Z h1 b1 k1 .int (32 : Int32) [(.int (0 : Int32)), (.int (0 : Int32)), (.int (0 : Int32)), (.int (0 : Int32)), (.int (0 : Int32)), (.int (0 : Int32)), (.int (0 : Int32)), (.int (0 : Int32)), (.int (0 : Int32)), (.int (0 : Int32)), (.int (0 : Int32)), (.int (0 : Int32)), (.int (0 : Int32)), (.int (0 : Int32)), (.int (0 : Int32)), (.int (0 : Int32)), (.int (0 : Int32)), (.int (0 : Int32)), (.int (0 : Int32)), (.int (0 : Int32)), (.int (0 : Int32)), (.int (0 : Int32)), (.int (0 : Int32)), (.int (0 : Int32)), (.int (0 : Int32)), (.int (0 : Int32)), (.int (0 : Int32)), (.int (0 : Int32)), (.int (0 : Int32)), (.int (0 : Int32)), (.int (0 : Int32)), (.int (0 : Int32))] (.int (0 : Int32)) := Arv.pad V1q (pad_rep [] (.int (0 : Int32)) 32)
  refine own_dup X1 hx (hb hby at_4) rfl rfl ?_
  refine own_iconst X1 hx (0 : Int32) (hb hby at_5) (by decide) rfl ?_
  refine own_iconst X1 hx (5 : Int32) (hb hby at_6) (by decide) rfl ?_
  refine own_stI X1 hx hZ e1 V1 ⟨by decide, by decide⟩ 0 rfl (Nat.le_of_ble_eq_true rfl) N0 g_b1 (hb hby at_7) rfl ?_
  intro T4 h4 X4 e4 W4 N4 V4
  have HH5 := HH2.wr W4 (Safe.arv hZ.alike V1 (by decide))
  have K6 := K3.wr W4 (Or.inr sz_b1)
  refine own_dup X4 hx (hb hby at_8) rfl rfl ?_
  refine own_iconst X4 hx (1 : Int32) (hb hby at_9) (by decide) rfl ?_
  refine own_iconst X4 hx (4 : Int32) (hb hby at_10) (by decide) rfl ?_
  refine own_stI X4 hx hZ e4 V4 ⟨by decide, by decide⟩ 1 rfl (Nat.le_of_ble_eq_true rfl) N4 g_b1 (hb hby at_11) rfl ?_
  intro T7 h7 X7 e7 W7 N7 V7
  have HH8 := HH5.wr W7 (Safe.arv hZ.alike V4 (by decide))
  have K9 := K6.wr W7 (Or.inr sz_b1)
  refine own_dup X7 hx (hb hby at_12) rfl rfl ?_
  refine own_iconst X7 hx (2 : Int32) (hb hby at_13) (by decide) rfl ?_
  refine own_bipush X7 hx (-5 : Int32) (hb hby at_14) (by decide) rfl ?_
  refine own_stI X7 hx hZ e7 V7 ⟨by decide, by decide⟩ 2 rfl (Nat.le_of_ble_eq_true rfl) N7 g_b1 (hb hby at_16) rfl ?_
  intro T10 h10 X10 e10 W10 N10 V10
  have HH11 := HH8.wr W10 (Safe.arv hZ.alike V7 (by decide))
  have K12 := K9.wr W10 (Or.inr sz_b1)
  refine own_dup X10 hx (hb hby at_17) rfl rfl ?_
  refine own_iconst X10 hx (3 : Int32) (hb hby at_18) (by decide) rfl ?_
  refine own_bipush X10 hx (7 : Int32) (hb hby at_19) (by decide) rfl ?_
  refine own_stI X10 hx hZ e10 V10 ⟨by decide, by decide⟩ 3 rfl (Nat.le_of_ble_eq_true rfl) N10 g_b1 (hb hby at_21) rfl ?_
  intro T13 h13 X13 e13 W13 N13 V13
  have HH14 := HH11.wr W13 (Safe.arv hZ.alike V10 (by decide))
  have K15 := K12.wr W13 (Or.inr sz_b1)
  refine own_dup X13 hx (hb hby at_22) rfl rfl ?_
  refine own_iconst X13 hx (4 : Int32) (hb hby at_23) (by decide) rfl ?_
  refine own_bipush X13 hx (8 : Int32) (hb hby at_24) (by decide) rfl ?_
  refine own_stI X13 hx hZ e13 V13 ⟨by decide, by decide⟩ 4 rfl (Nat.le_of_ble_eq_true rfl) N13 g_b1 (hb hby at_26) rfl ?_
  intro T16 h16 X16 e16 W16 N16 V16
  have HH17 := HH14.wr W16 (Safe.arv hZ.alike V13 (by decide))
  have K18 := K15.wr W16 (Or.inr sz_b1)
  refine own_dup X16 hx (hb hby at_27) rfl rfl ?_
  refine own_iconst X16 hx (5 : Int32) (hb hby at_28) (by decide) rfl ?_
  refine own_iconst X16 hx (2 : Int32) (hb hby at_29) (by decide) rfl ?_
  refine own_stI X16 hx hZ e16 V16 ⟨by decide, by decide⟩ 5 rfl (Nat.le_of_ble_eq_true rfl) N16 g_b1 (hb hby at_30) rfl ?_
  intro T19 h19 X19 e19 W19 N19 V19
  have HH20 := HH17.wr W19 (Safe.arv hZ.alike V16 (by decide))
  have K21 := K18.wr W19 (Or.inr sz_b1)
  refine own_dup X19 hx (hb hby at_31) rfl rfl ?_
  refine own_bipush X19 hx (6 : Int32) (hb hby at_32) (by decide) rfl ?_
  refine own_iconst X19 hx (3 : Int32) (hb hby at_34) (by decide) rfl ?_
  refine own_stI X19 hx hZ e19 V19 ⟨by decide, by decide⟩ 6 rfl (Nat.le_of_ble_eq_true rfl) N19 g_b1 (hb hby at_35) rfl ?_
  intro T22 h22 X22 e22 W22 N22 V22
  have HH23 := HH20.wr W22 (Safe.arv hZ.alike V19 (by decide))
  have K24 := K21.wr W22 (Or.inr sz_b1)
  refine own_dup X22 hx (hb hby at_36) rfl rfl ?_
  refine own_bipush X22 hx (7 : Int32) (hb hby at_37) (by decide) rfl ?_
  refine own_bipush X22 hx (16 : Int32) (hb hby at_39) (by decide) rfl ?_
  refine own_stI X22 hx hZ e22 V22 ⟨by decide, by decide⟩ 7 rfl (Nat.le_of_ble_eq_true rfl) N22 g_b1 (hb hby at_41) rfl ?_
  intro T25 h25 X25 e25 W25 N25 V25
  have HH26 := HH23.wr W25 (Safe.arv hZ.alike V22 (by decide))
  have K27 := K24.wr W25 (Or.inr sz_b1)
  refine own_dup X25 hx (hb hby at_42) rfl rfl ?_
  refine own_bipush X25 hx (8 : Int32) (hb hby at_43) (by decide) rfl ?_
  refine own_bipush X25 hx (-7 : Int32) (hb hby at_45) (by decide) rfl ?_
  refine own_stI X25 hx hZ e25 V25 ⟨by decide, by decide⟩ 8 rfl (Nat.le_of_ble_eq_true rfl) N25 g_b1 (hb hby at_47) rfl ?_
  intro T28 h28 X28 e28 W28 N28 V28
  have HH29 := HH26.wr W28 (Safe.arv hZ.alike V25 (by decide))
  have K30 := K27.wr W28 (Or.inr sz_b1)
  refine own_dup X28 hx (hb hby at_48) rfl rfl ?_
  refine own_bipush X28 hx (9 : Int32) (hb hby at_49) (by decide) rfl ?_
  refine own_iconst X28 hx (1 : Int32) (hb hby at_51) (by decide) rfl ?_
  refine own_stI X28 hx hZ e28 V28 ⟨by decide, by decide⟩ 9 rfl (Nat.le_of_ble_eq_true rfl) N28 g_b1 (hb hby at_52) rfl ?_
  intro T31 h31 X31 e31 W31 N31 V31
  have HH32 := HH29.wr W31 (Safe.arv hZ.alike V28 (by decide))
  have K33 := K30.wr W31 (Or.inr sz_b1)
  refine own_dup X31 hx (hb hby at_53) rfl rfl ?_
  refine own_bipush X31 hx (10 : Int32) (hb hby at_54) (by decide) rfl ?_
  refine own_bipush X31 hx (12 : Int32) (hb hby at_56) (by decide) rfl ?_
  refine own_stI X31 hx hZ e31 V31 ⟨by decide, by decide⟩ 10 rfl (Nat.le_of_ble_eq_true rfl) N31 g_b1 (hb hby at_58) rfl ?_
  intro T34 h34 X34 e34 W34 N34 V34
  have HH35 := HH32.wr W34 (Safe.arv hZ.alike V31 (by decide))
  have K36 := K33.wr W34 (Or.inr sz_b1)
  refine own_dup X34 hx (hb hby at_59) rfl rfl ?_
  refine own_bipush X34 hx (11 : Int32) (hb hby at_60) (by decide) rfl ?_
  refine own_iconst X34 hx (-1 : Int32) (hb hby at_62) (by decide) rfl ?_
  refine own_stI X34 hx hZ e34 V34 ⟨by decide, by decide⟩ 11 rfl (Nat.le_of_ble_eq_true rfl) N34 g_b1 (hb hby at_63) rfl ?_
  intro T37 h37 X37 e37 W37 N37 V37
  have HH38 := HH35.wr W37 (Safe.arv hZ.alike V34 (by decide))
  have K39 := K36.wr W37 (Or.inr sz_b1)
  refine own_dup X37 hx (hb hby at_64) rfl rfl ?_
  refine own_bipush X37 hx (12 : Int32) (hb hby at_65) (by decide) rfl ?_
  refine own_bipush X37 hx (-15 : Int32) (hb hby at_67) (by decide) rfl ?_
  refine own_stI X37 hx hZ e37 V37 ⟨by decide, by decide⟩ 12 rfl (Nat.le_of_ble_eq_true rfl) N37 g_b1 (hb hby at_69) rfl ?_
  intro T40 h40 X40 e40 W40 N40 V40
  have HH41 := HH38.wr W40 (Safe.arv hZ.alike V37 (by decide))
  have K42 := K39.wr W40 (Or.inr sz_b1)
  refine own_dup X40 hx (hb hby at_70) rfl rfl ?_
  refine own_bipush X40 hx (13 : Int32) (hb hby at_71) (by decide) rfl ?_
  refine own_bipush X40 hx (-9 : Int32) (hb hby at_73) (by decide) rfl ?_
  refine own_stI X40 hx hZ e40 V40 ⟨by decide, by decide⟩ 13 rfl (Nat.le_of_ble_eq_true rfl) N40 g_b1 (hb hby at_75) rfl ?_
  intro T43 h43 X43 e43 W43 N43 V43
  have HH44 := HH41.wr W43 (Safe.arv hZ.alike V40 (by decide))
  have K45 := K42.wr W43 (Or.inr sz_b1)
  refine own_dup X43 hx (hb hby at_76) rfl rfl ?_
  refine own_bipush X43 hx (14 : Int32) (hb hby at_77) (by decide) rfl ?_
  refine own_bipush X43 hx (-16 : Int32) (hb hby at_79) (by decide) rfl ?_
  refine own_stI X43 hx hZ e43 V43 ⟨by decide, by decide⟩ 14 rfl (Nat.le_of_ble_eq_true rfl) N43 g_b1 (hb hby at_81) rfl ?_
  intro T46 h46 X46 e46 W46 N46 V46
  have HH47 := HH44.wr W46 (Safe.arv hZ.alike V43 (by decide))
  have K48 := K45.wr W46 (Or.inr sz_b1)
  refine own_dup X46 hx (hb hby at_82) rfl rfl ?_
  refine own_bipush X46 hx (15 : Int32) (hb hby at_83) (by decide) rfl ?_
  refine own_bipush X46 hx (91 : Int32) (hb hby at_85) (by decide) rfl ?_
  refine own_stI X46 hx hZ e46 V46 ⟨by decide, by decide⟩ 15 rfl (Nat.le_of_ble_eq_true rfl) N46 g_b1 (hb hby at_87) rfl ?_
  intro T49 h49 X49 e49 W49 N49 V49
  have HH50 := HH47.wr W49 (Safe.arv hZ.alike V46 (by decide))
  have K51 := K48.wr W49 (Or.inr sz_b1)
  refine own_dup X49 hx (hb hby at_88) rfl rfl ?_
  refine own_bipush X49 hx (16 : Int32) (hb hby at_89) (by decide) rfl ?_
  refine own_bipush X49 hx (92 : Int32) (hb hby at_91) (by decide) rfl ?_
  refine own_stI X49 hx hZ e49 V49 ⟨by decide, by decide⟩ 16 rfl (Nat.le_of_ble_eq_true rfl) N49 g_b1 (hb hby at_93) rfl ?_
  intro T52 h52 X52 e52 W52 N52 V52
  have HH53 := HH50.wr W52 (Safe.arv hZ.alike V49 (by decide))
  have K54 := K51.wr W52 (Or.inr sz_b1)
  refine own_dup X52 hx (hb hby at_94) rfl rfl ?_
  refine own_bipush X52 hx (17 : Int32) (hb hby at_95) (by decide) rfl ?_
  refine own_bipush X52 hx (93 : Int32) (hb hby at_97) (by decide) rfl ?_
  refine own_stI X52 hx hZ e52 V52 ⟨by decide, by decide⟩ 17 rfl (Nat.le_of_ble_eq_true rfl) N52 g_b1 (hb hby at_99) rfl ?_
  intro T55 h55 X55 e55 W55 N55 V55
  have HH56 := HH53.wr W55 (Safe.arv hZ.alike V52 (by decide))
  have K57 := K54.wr W55 (Or.inr sz_b1)
  refine own_dup X55 hx (hb hby at_100) rfl rfl ?_
  refine own_bipush X55 hx (18 : Int32) (hb hby at_101) (by decide) rfl ?_
  refine own_sipush X55 hx (2014 : Int32) (hb hby at_103) (by decide) rfl ?_
  refine own_stI X55 hx hZ e55 V55 ⟨by decide, by decide⟩ 18 rfl (Nat.le_of_ble_eq_true rfl) N55 g_b1 (hb hby at_106) rfl ?_
  intro T58 h58 X58 e58 W58 N58 V58
  have HH59 := HH56.wr W58 (Safe.arv hZ.alike V55 (by decide))
  have K60 := K57.wr W58 (Or.inr sz_b1)
  refine own_dup X58 hx (hb hby at_107) rfl rfl ?_
  refine own_bipush X58 hx (19 : Int32) (hb hby at_108) (by decide) rfl ?_
  refine own_bipush X58 hx (-2 : Int32) (hb hby at_110) (by decide) rfl ?_
  refine own_stI X58 hx hZ e58 V58 ⟨by decide, by decide⟩ 19 rfl (Nat.le_of_ble_eq_true rfl) N58 g_b1 (hb hby at_112) rfl ?_
  intro T61 h61 X61 e61 W61 N61 V61
  have HH62 := HH59.wr W61 (Safe.arv hZ.alike V58 (by decide))
  have K63 := K60.wr W61 (Or.inr sz_b1)
  refine own_dup X61 hx (hb hby at_113) rfl rfl ?_
  refine own_bipush X61 hx (20 : Int32) (hb hby at_114) (by decide) rfl ?_
  refine own_bipush X61 hx (-3 : Int32) (hb hby at_116) (by decide) rfl ?_
  refine own_stI X61 hx hZ e61 V61 ⟨by decide, by decide⟩ 20 rfl (Nat.le_of_ble_eq_true rfl) N61 g_b1 (hb hby at_118) rfl ?_
  intro T64 h64 X64 e64 W64 N64 V64
  have HH65 := HH62.wr W64 (Safe.arv hZ.alike V61 (by decide))
  have K66 := K63.wr W64 (Or.inr sz_b1)
  refine own_dup X64 hx (hb hby at_119) rfl rfl ?_
  refine own_bipush X64 hx (21 : Int32) (hb hby at_120) (by decide) rfl ?_
  refine own_bipush X64 hx (-4 : Int32) (hb hby at_122) (by decide) rfl ?_
  refine own_stI X64 hx hZ e64 V64 ⟨by decide, by decide⟩ 21 rfl (Nat.le_of_ble_eq_true rfl) N64 g_b1 (hb hby at_124) rfl ?_
  intro T67 h67 X67 e67 W67 N67 V67
  have HH68 := HH65.wr W67 (Safe.arv hZ.alike V64 (by decide))
  have K69 := K66.wr W67 (Or.inr sz_b1)
  refine own_dup X67 hx (hb hby at_125) rfl rfl ?_
  refine own_bipush X67 hx (22 : Int32) (hb hby at_126) (by decide) rfl ?_
  refine own_sipush X67 hx (2004 : Int32) (hb hby at_128) (by decide) rfl ?_
  refine own_stI X67 hx hZ e67 V67 ⟨by decide, by decide⟩ 22 rfl (Nat.le_of_ble_eq_true rfl) N67 g_b1 (hb hby at_131) rfl ?_
  intro T70 h70 X70 e70 W70 N70 V70
  have HH71 := HH68.wr W70 (Safe.arv hZ.alike V67 (by decide))
  have K72 := K69.wr W70 (Or.inr sz_b1)
  refine own_dup X70 hx (hb hby at_132) rfl rfl ?_
  refine own_bipush X70 hx (23 : Int32) (hb hby at_133) (by decide) rfl ?_
  refine own_sipush X70 hx (1111 : Int32) (hb hby at_135) (by decide) rfl ?_
  refine own_stI X70 hx hZ e70 V70 ⟨by decide, by decide⟩ 23 rfl (Nat.le_of_ble_eq_true rfl) N70 g_b1 (hb hby at_138) rfl ?_
  intro T73 h73 X73 e73 W73 N73 V73
  have HH74 := HH71.wr W73 (Safe.arv hZ.alike V70 (by decide))
  have K75 := K72.wr W73 (Or.inr sz_b1)
  refine own_dup X73 hx (hb hby at_139) rfl rfl ?_
  refine own_bipush X73 hx (24 : Int32) (hb hby at_140) (by decide) rfl ?_
  refine own_bipush X73 hx (6 : Int32) (hb hby at_142) (by decide) rfl ?_
  refine own_stI X73 hx hZ e73 V73 ⟨by decide, by decide⟩ 24 rfl (Nat.le_of_ble_eq_true rfl) N73 g_b1 (hb hby at_144) rfl ?_
  intro T76 h76 X76 e76 W76 N76 V76
  have HH77 := HH74.wr W76 (Safe.arv hZ.alike V73 (by decide))
  have K78 := K75.wr W76 (Or.inr sz_b1)
  refine own_dup X76 hx (hb hby at_145) rfl rfl ?_
  refine own_bipush X76 hx (25 : Int32) (hb hby at_146) (by decide) rfl ?_
  refine own_bipush X76 hx (-6 : Int32) (hb hby at_148) (by decide) rfl ?_
  refine own_stI X76 hx hZ e76 V76 ⟨by decide, by decide⟩ 25 rfl (Nat.le_of_ble_eq_true rfl) N76 g_b1 (hb hby at_150) rfl ?_
  intro T79 h79 X79 e79 W79 N79 V79
  have HH80 := HH77.wr W79 (Safe.arv hZ.alike V76 (by decide))
  have K81 := K78.wr W79 (Or.inr sz_b1)
  refine own_dup X79 hx (hb hby at_151) rfl rfl ?_
  refine own_bipush X79 hx (26 : Int32) (hb hby at_152) (by decide) rfl ?_
  refine own_iconst X79 hx (0 : Int32) (hb hby at_154) (by decide) rfl ?_
  refine own_stI X79 hx hZ e79 V79 ⟨by decide, by decide⟩ 26 rfl (Nat.le_of_ble_eq_true rfl) N79 g_b1 (hb hby at_155) rfl ?_
  intro T82 h82 X82 e82 W82 N82 V82
  have HH83 := HH80.wr W82 (Safe.arv hZ.alike V79 (by decide))
  have K84 := K81.wr W82 (Or.inr sz_b1)
  refine own_dup X82 hx (hb hby at_156) rfl rfl ?_
  refine own_bipush X82 hx (27 : Int32) (hb hby at_157) (by decide) rfl ?_
  refine own_sipush X82 hx (2005 : Int32) (hb hby at_159) (by decide) rfl ?_
  refine own_stI X82 hx hZ e82 V82 ⟨by decide, by decide⟩ 27 rfl (Nat.le_of_ble_eq_true rfl) N82 g_b1 (hb hby at_162) rfl ?_
  intro T85 h85 X85 e85 W85 N85 V85
  have HH86 := HH83.wr W85 (Safe.arv hZ.alike V82 (by decide))
  have K87 := K84.wr W85 (Or.inr sz_b1)
  refine own_dup X85 hx (hb hby at_163) rfl rfl ?_
  refine own_bipush X85 hx (28 : Int32) (hb hby at_164) (by decide) rfl ?_
  refine own_sipush X85 hx (2013 : Int32) (hb hby at_166) (by decide) rfl ?_
  refine own_stI X85 hx hZ e85 V85 ⟨by decide, by decide⟩ 28 rfl (Nat.le_of_ble_eq_true rfl) N85 g_b1 (hb hby at_169) rfl ?_
  intro T88 h88 X88 e88 W88 N88 V88
  have HH89 := HH86.wr W88 (Safe.arv hZ.alike V85 (by decide))
  have K90 := K87.wr W88 (Or.inr sz_b1)
  refine own_dup X88 hx (hb hby at_170) rfl rfl ?_
  refine own_bipush X88 hx (29 : Int32) (hb hby at_171) (by decide) rfl ?_
  refine own_bipush X88 hx (-8 : Int32) (hb hby at_173) (by decide) rfl ?_
  refine own_stI X88 hx hZ e88 V88 ⟨by decide, by decide⟩ 29 rfl (Nat.le_of_ble_eq_true rfl) N88 g_b1 (hb hby at_175) rfl ?_
  intro T91 h91 X91 e91 W91 N91 V91
  have HH92 := HH89.wr W91 (Safe.arv hZ.alike V88 (by decide))
  have K93 := K90.wr W91 (Or.inr sz_b1)
  refine own_dup X91 hx (hb hby at_176) rfl rfl ?_
  refine own_bipush X91 hx (30 : Int32) (hb hby at_177) (by decide) rfl ?_
  refine own_bipush X91 hx (70 : Int32) (hb hby at_179) (by decide) rfl ?_
  refine own_stI X91 hx hZ e91 V91 ⟨by decide, by decide⟩ 30 rfl (Nat.le_of_ble_eq_true rfl) N91 g_b1 (hb hby at_181) rfl ?_
  intro T94 h94 X94 e94 W94 N94 V94
  have HH95 := HH92.wr W94 (Safe.arv hZ.alike V91 (by decide))
  have K96 := K93.wr W94 (Or.inr sz_b1)
  refine own_dup X94 hx (hb hby at_182) rfl rfl ?_
  refine own_bipush X94 hx (31 : Int32) (hb hby at_183) (by decide) rfl ?_
  refine own_sipush X94 hx (2003 : Int32) (hb hby at_185) (by decide) rfl ?_
  refine own_stI X94 hx hZ e94 V94 ⟨by decide, by decide⟩ 31 rfl (Nat.le_of_ble_eq_true rfl) N94 g_b1 (hb hby at_188) rfl ?_
  intro T97 h97 X97 e97 W97 N97 V97
  have HH98 := HH95.wr W97 (Safe.arv hZ.alike V94 (by decide))
  have K99 := K96.wr W97 (Or.inr sz_b1)
  refine own_astore X97 hx #[.val (.int p1), .val (.int p2), .val (.int p3), .val (.long p4), .second, .val (.ref b1), .unset, .unset, .unset, .unset] (hb hby at_189) rfl rfl rfl ?_
  refine own_iloadN X97 hx (hb hby at_191) rfl rfl ?_
  refine own_iconst X97 hx (1 : Int32) (hb hby at_192) (by decide) rfl ?_
  refine own_iand X97 hx (hb hby at_193) rfl ?_
  refine own_if_eq X97 hx (hb hby at_194) (by decide) rfl rfl (fun hc194_100 => ?_) (fun hc194_100 => ?_)
  · refine own_aload X97 hx (hb hby at_201) rfl rfl rfl ?_
    refine own_iloadN X97 hx (hb hby at_203) rfl rfl ?_
    refine own_bipush X97 hx (31 : Int32) (hb hby at_204) (by decide) rfl ?_
    refine own_iand X97 hx (hb hby at_206) rfl ?_
    refine own_iaload X97 hx hZ e97 V97 (own_m31 p1) (own_getI [(5 : Int32), (4 : Int32), (-5 : Int32), (7 : Int32), (8 : Int32), (2 : Int32), (3 : Int32), (16 : Int32), (-7 : Int32), (1 : Int32), (12 : Int32), (-1 : Int32), (-15 : Int32), (-9 : Int32), (-16 : Int32), (91 : Int32), (92 : Int32), (93 : Int32), (2014 : Int32), (-2 : Int32), (-3 : Int32), (-4 : Int32), (2004 : Int32), (1111 : Int32), (6 : Int32), (-6 : Int32), (0 : Int32), (2005 : Int32), (2013 : Int32), (-8 : Int32), (70 : Int32), (2003 : Int32)] _) (hb hby at_207) rfl ?_
    generalize (([(5 : Int32), (4 : Int32), (-5 : Int32), (7 : Int32), (8 : Int32), (2 : Int32), (3 : Int32), (16 : Int32), (-7 : Int32), (1 : Int32), (12 : Int32), (-1 : Int32), (-15 : Int32), (-9 : Int32), (-16 : Int32), (91 : Int32), (92 : Int32), (93 : Int32), (2014 : Int32), (-2 : Int32), (-3 : Int32), (-4 : Int32), (2004 : Int32), (1111 : Int32), (6 : Int32), (-6 : Int32), (0 : Int32), (2005 : Int32), (2013 : Int32), (-8 : Int32), (70 : Int32), (2003 : Int32)] : List Int32).getD (p1 &&& (31 : Int32)).toNatClampNeg 0) = t1
    refine own_istore X97 hx #[.val (.int p1), .val (.int p2), .val (.int p3), .val (.long p4), .second, .val (.ref b1), .val (.int t1), .unset, .unset, .unset] (hb hby at_208) rfl rfl ?_
    refine own_iloadN X97 hx (hb hby at_210) rfl rfl ?_
    refine own_lloadN X97 hx (hb hby at_211) rfl rfl ?_
    have f101 := (((((((((((((((((((((((((((((((((O0.ext E1).wr W4 g_b1).wr W7 g_b1).wr W10 g_b1).wr W13 g_b1).wr W16 g_b1).wr W19 g_b1).wr W22 g_b1).wr W25 g_b1).wr W28 g_b1).wr W31 g_b1).wr W34 g_b1).wr W37 g_b1).wr W40 g_b1).wr W43 g_b1).wr W46 g_b1).wr W49 g_b1).wr W52 g_b1).wr W55 g_b1).wr W58 g_b1).wr W61 g_b1).wr W64 g_b1).wr W67 g_b1).wr W70 g_b1).wr W73 g_b1).wr W76 g_b1).wr W79 g_b1).wr W82 g_b1).wr W85 g_b1).wr W88 g_b1).wr W91 g_b1).wr W94 g_b1).wr W97 g_b1)
    refine own_staticH X97 hx hZ (y := (⟨"com/example/kinfold/kinfold/ValueEncodingForTypePinLaw", "typeName", "(IJ)Ljava/lang/String;"⟩ : MethodName)) hown (hw _ (List.mem_of_getElem? (i := 1) rfl)) (hw _ (List.mem_of_getElem? (i := 2) rfl)) (hw _ (List.mem_of_getElem? (i := 3) rfl)) (hw _ (List.mem_of_getElem? (i := 4) rfl)) (by decide) HH98 hEL e97 (by decide) (W := 0) (by decide) (by decide) (by decide) [(.int p3), (.long p4)] [] (by rw [hml]; rfl) (own_typeName l Z a0 hw p3 zc p4 en em h97 n0 hEL f101 SC hzc HS SE XE FE) own_pd6 rfl rfl rfl (hb hby at_212) rfl ?_
    intro v102 T102 L102 X102 hQ102 hZ hown HH102 A102
    obtain ⟨nv, q, rfl, Nq102, Kq102, SN⟩ := hQ102
    have N102 := Fr.app N97 Nq102
    have K103 := K99.trans Kq102 all0
    show own_Ends p e below _ (T102.setTop (mkF m 215 #[.val (.int p1), .val (.int p2), .val (.int p3), .val (.long p4), .second, .val (.ref b1), .val (.int t1), .unset, .unset, .unset] [nv]))
    refine own_astore X102 hx #[.val (.int p1), .val (.int p2), .val (.int p3), .val (.long p4), .second, .val (.ref b1), .val (.int t1), .val nv, .unset, .unset] (hb hby at_215) SN.isref (own_refE (P := fun vv => storeLocals #[.val (.int p1), .val (.int p2), .val (.int p3), .val (.long p4), .second, .val (.ref b1), .val (.int t1), .unset, .unset, .unset] 7 vv = some #[.val (.int p1), .val (.int p2), .val (.int p3), .val (.long p4), .second, .val (.ref b1), .val (.int t1), .val vv, .unset, .unset]) SN.isref rfl (fun _ => rfl)) rfl ?_
    refine own_iload X102 hx (hb hby at_217) rfl rfl ?_
    refine own_aload X102 hx (hb hby at_219) rfl SN.isref rfl ?_
    have f104 := (f101.keep Kq102 all0)
    refine own_staticH X102 hx hZ (y := (⟨"com/example/kinfold/kinfold/ValueEncodingForTypePinLaw", "expected", "(ILjava/lang/String;)Lcom/example/kinfold/kinfold/ValueEncoding;"⟩ : MethodName)) hown (hw _ (List.mem_of_getElem? (i := 13) rfl)) (hw _ (List.mem_of_getElem? (i := 14) rfl)) (hw _ (List.mem_of_getElem? (i := 3) rfl)) (hw _ (List.mem_of_getElem? (i := 15) rfl)) (by decide) HH102 hEL rfl (by decide) (W := 0) (by decide) (by decide) (by decide) [(.int t1), nv] [] (by rw [hml]; rfl) (own_expected l Z a0 hw t1 zc en em nv q T102.heap n0 hEL f104 SC hzc HS SE XE FE SN) own_pd7 rfl rfl rfl (hb hby at_221) rfl ?_
    intro v105 T105 L105 X105 hQ105 hZ hown HH105 A105
    obtain ⟨rfl, Nq105, Kq105⟩ := hQ105
    have N105 := Fr.app N102 Nq105
    have K106 := K103.trans Kq105 all0
    show own_Ends p e below _ (T105.setTop (mkF m 224 #[.val (.int p1), .val (.int p2), .val (.int p3), .val (.long p4), .second, .val (.ref b1), .val (.int t1), .val nv, .unset, .unset] [(own_exp en t1 q)]))
    refine own_astore X105 hx #[.val (.int p1), .val (.int p2), .val (.int p3), .val (.long p4), .second, .val (.ref b1), .val (.int t1), .val nv, .val (own_exp en t1 q), .unset] (hb hby at_224) (own_expR en t1 q) (own_refE (P := fun vv => storeLocals #[.val (.int p1), .val (.int p2), .val (.int p3), .val (.long p4), .second, .val (.ref b1), .val (.int t1), .val nv, .unset, .unset] 8 vv = some #[.val (.int p1), .val (.int p2), .val (.int p3), .val (.long p4), .second, .val (.ref b1), .val (.int t1), .val nv, .val vv, .unset]) (own_expR en t1 q) rfl (fun _ => rfl)) rfl ?_
    refine own_iload X105 hx (hb hby at_226) rfl rfl ?_
    refine own_aload X105 hx (hb hby at_228) rfl SN.isref rfl ?_
    have f107 := (f104.keep Kq105 all0)
    have f108 := (SN.keep0 Kq105)
    refine own_staticH X105 hx hZ (y := (⟨"com/example/kinfold/kinfold/ValueEncoding", "forType", "(ILjava/lang/String;)Ljava/util/Optional;"⟩ : MethodName)) hown (hw _ (List.mem_of_getElem? (i := 37) rfl)) (hw _ (List.mem_of_getElem? (i := 38) rfl)) (hw _ (List.mem_of_getElem? (i := 39) rfl)) (hw _ (List.mem_of_getElem? (i := 40) rfl)) (by decide) HH105 hEL rfl (by decide) (W := 0) (by decide) (by decide) (by decide) [(.int t1), nv] [] (by rw [hml]; rfl) (own_forType l Z a0 hw t1 zc en em nv q T105.heap n0 hEL f107 SC hzc HS SE XE FE f108) own_pd8 rfl rfl rfl (hb hby at_230) rfl ?_
    intro v109 T109 L109 X109 hQ109 hZ hown HH109 A109
    obtain ⟨op109, rfl, Nq109, Kq109, Eo109, Fo109⟩ := hQ109
    have N109 := Fr.app N105 Nq109
    have K110 := K106.trans Kq109 all0
    show own_Ends p e below _ (T109.setTop (mkF m 233 #[.val (.int p1), .val (.int p2), .val (.int p3), .val (.long p4), .second, .val (.ref b1), .val (.int t1), .val nv, .val (own_exp en t1 q), .unset] [(.ref op109)]))
    refine own_astore X109 hx #[.val (.int p1), .val (.int p2), .val (.int p3), .val (.long p4), .second, .val (.ref b1), .val (.int t1), .val nv, .val (own_exp en t1 q), .val (.ref op109)] (hb hby at_233) rfl rfl rfl ?_
    refine own_aload X109 hx (hb hby at_235) rfl rfl rfl ?_
    refine own_ifnullF X109 hx (hb hby at_237) rfl ?_
    refine own_aload X109 hx (hb hby at_240) rfl rfl rfl ?_
    refine own_aconst_null X109 hx (hb hby at_242) rfl ?_
    refine own_virtual X109 hx hZ (y := (⟨"java/util/Optional", "orElse", "(Ljava/lang/Object;)Ljava/lang/Object;"⟩ : MethodName)) (z := (⟨"java/util/Optional", "orElse", "(Ljava/lang/Object;)Ljava/lang/Object;"⟩ : MethodName)) hown (hw _ (List.mem_of_getElem? (i := 46) rfl)) (hw _ (List.mem_of_getElem? (i := 47) rfl)) (notFace_of_selects (args := #[]) (mvT hZ (hw _ (List.mem_of_getElem? (i := 49) rfl)))) (hw _ (List.mem_of_getElem? (i := 49) rfl)) (hw _ (List.mem_of_getElem? (i := 48) rfl)) (hw _ (List.mem_of_getElem? (i := 43) rfl)) (hw _ (List.mem_of_getElem? (i := 50) rfl)) (by decide) rfl (by decide) (W := 0) (by decide) (by decide) (by decide) [.null] [] (by rw [hml]; rfl) Eo109 (own_orElse l Z a0 hw op109 (own_exp en t1 q) T109.heap n0 (own_expR en t1 q) Fo109) own_pd9 rfl rfl rfl (hb hby at_243) rfl ?_
    intro v111 T111 L111 X111 hQ111
    obtain ⟨rfl, Nq111, hh111⟩ := hQ111
    have N111 := Fr.app N109 Nq111
    show own_Ends p e below _ (T111.setTop (mkF m 246 #[.val (.int p1), .val (.int p2), .val (.int p3), .val (.long p4), .second, .val (.ref b1), .val (.int t1), .val nv, .val (own_exp en t1 q), .val (.ref op109)] [(own_exp en t1 q)]))
    refine own_aload X111 hx (hb hby at_246) rfl (own_expR en t1 q) rfl ?_
    refine own_acmp X111 hx (hb hby at_248) (own_expR en t1 q) (own_expR en t1 q) (by decide) rfl rfl (fun hc248_112 => absurd hc248_112 (by simp [acV])) (fun hc248_112 => ?_)
    refine own_iconst X111 hx (1 : Int32) (hb hby at_251) (by decide) rfl ?_
    refine own_goto X111 hx (hb hby at_252) (by decide) rfl ?_
    exact own_retNH X111 hx hZ hh111 HH109 hEL hlocks hret (by simp) (hb hby at_256) (by decide) (by decide) (by decide) ⟨rfl, N111⟩
  · refine own_iloadN X97 hx (hb hby at_197) rfl rfl ?_
    refine own_goto X97 hx (hb hby at_198) (by decide) rfl ?_
    refine own_istore X97 hx #[.val (.int p1), .val (.int p2), .val (.int p3), .val (.long p4), .second, .val (.ref b1), .val (.int p1), .unset, .unset, .unset] (hb hby at_208) rfl rfl ?_
    refine own_iloadN X97 hx (hb hby at_210) rfl rfl ?_
    refine own_lloadN X97 hx (hb hby at_211) rfl rfl ?_
    have f113 := (((((((((((((((((((((((((((((((((O0.ext E1).wr W4 g_b1).wr W7 g_b1).wr W10 g_b1).wr W13 g_b1).wr W16 g_b1).wr W19 g_b1).wr W22 g_b1).wr W25 g_b1).wr W28 g_b1).wr W31 g_b1).wr W34 g_b1).wr W37 g_b1).wr W40 g_b1).wr W43 g_b1).wr W46 g_b1).wr W49 g_b1).wr W52 g_b1).wr W55 g_b1).wr W58 g_b1).wr W61 g_b1).wr W64 g_b1).wr W67 g_b1).wr W70 g_b1).wr W73 g_b1).wr W76 g_b1).wr W79 g_b1).wr W82 g_b1).wr W85 g_b1).wr W88 g_b1).wr W91 g_b1).wr W94 g_b1).wr W97 g_b1)
    refine own_staticH X97 hx hZ (y := (⟨"com/example/kinfold/kinfold/ValueEncodingForTypePinLaw", "typeName", "(IJ)Ljava/lang/String;"⟩ : MethodName)) hown (hw _ (List.mem_of_getElem? (i := 1) rfl)) (hw _ (List.mem_of_getElem? (i := 2) rfl)) (hw _ (List.mem_of_getElem? (i := 3) rfl)) (hw _ (List.mem_of_getElem? (i := 4) rfl)) (by decide) HH98 hEL e97 (by decide) (W := 0) (by decide) (by decide) (by decide) [(.int p3), (.long p4)] [] (by rw [hml]; rfl) (own_typeName l Z a0 hw p3 zc p4 en em h97 n0 hEL f113 SC hzc HS SE XE FE) own_pd6 rfl rfl rfl (hb hby at_212) rfl ?_
    intro v114 T114 L114 X114 hQ114 hZ hown HH114 A114
    obtain ⟨nv, q, rfl, Nq114, Kq114, SN⟩ := hQ114
    have N114 := Fr.app N97 Nq114
    have K115 := K99.trans Kq114 all0
    show own_Ends p e below _ (T114.setTop (mkF m 215 #[.val (.int p1), .val (.int p2), .val (.int p3), .val (.long p4), .second, .val (.ref b1), .val (.int p1), .unset, .unset, .unset] [nv]))
    refine own_astore X114 hx #[.val (.int p1), .val (.int p2), .val (.int p3), .val (.long p4), .second, .val (.ref b1), .val (.int p1), .val nv, .unset, .unset] (hb hby at_215) SN.isref (own_refE (P := fun vv => storeLocals #[.val (.int p1), .val (.int p2), .val (.int p3), .val (.long p4), .second, .val (.ref b1), .val (.int p1), .unset, .unset, .unset] 7 vv = some #[.val (.int p1), .val (.int p2), .val (.int p3), .val (.long p4), .second, .val (.ref b1), .val (.int p1), .val vv, .unset, .unset]) SN.isref rfl (fun _ => rfl)) rfl ?_
    refine own_iload X114 hx (hb hby at_217) rfl rfl ?_
    refine own_aload X114 hx (hb hby at_219) rfl SN.isref rfl ?_
    have f116 := (f113.keep Kq114 all0)
    refine own_staticH X114 hx hZ (y := (⟨"com/example/kinfold/kinfold/ValueEncodingForTypePinLaw", "expected", "(ILjava/lang/String;)Lcom/example/kinfold/kinfold/ValueEncoding;"⟩ : MethodName)) hown (hw _ (List.mem_of_getElem? (i := 13) rfl)) (hw _ (List.mem_of_getElem? (i := 14) rfl)) (hw _ (List.mem_of_getElem? (i := 3) rfl)) (hw _ (List.mem_of_getElem? (i := 15) rfl)) (by decide) HH114 hEL rfl (by decide) (W := 0) (by decide) (by decide) (by decide) [(.int p1), nv] [] (by rw [hml]; rfl) (own_expected l Z a0 hw p1 zc en em nv q T114.heap n0 hEL f116 SC hzc HS SE XE FE SN) own_pd7 rfl rfl rfl (hb hby at_221) rfl ?_
    intro v117 T117 L117 X117 hQ117 hZ hown HH117 A117
    obtain ⟨rfl, Nq117, Kq117⟩ := hQ117
    have N117 := Fr.app N114 Nq117
    have K118 := K115.trans Kq117 all0
    show own_Ends p e below _ (T117.setTop (mkF m 224 #[.val (.int p1), .val (.int p2), .val (.int p3), .val (.long p4), .second, .val (.ref b1), .val (.int p1), .val nv, .unset, .unset] [(own_exp en p1 q)]))
    refine own_astore X117 hx #[.val (.int p1), .val (.int p2), .val (.int p3), .val (.long p4), .second, .val (.ref b1), .val (.int p1), .val nv, .val (own_exp en p1 q), .unset] (hb hby at_224) (own_expR en p1 q) (own_refE (P := fun vv => storeLocals #[.val (.int p1), .val (.int p2), .val (.int p3), .val (.long p4), .second, .val (.ref b1), .val (.int p1), .val nv, .unset, .unset] 8 vv = some #[.val (.int p1), .val (.int p2), .val (.int p3), .val (.long p4), .second, .val (.ref b1), .val (.int p1), .val nv, .val vv, .unset]) (own_expR en p1 q) rfl (fun _ => rfl)) rfl ?_
    refine own_iload X117 hx (hb hby at_226) rfl rfl ?_
    refine own_aload X117 hx (hb hby at_228) rfl SN.isref rfl ?_
    have f119 := (f116.keep Kq117 all0)
    have f120 := (SN.keep0 Kq117)
    refine own_staticH X117 hx hZ (y := (⟨"com/example/kinfold/kinfold/ValueEncoding", "forType", "(ILjava/lang/String;)Ljava/util/Optional;"⟩ : MethodName)) hown (hw _ (List.mem_of_getElem? (i := 37) rfl)) (hw _ (List.mem_of_getElem? (i := 38) rfl)) (hw _ (List.mem_of_getElem? (i := 39) rfl)) (hw _ (List.mem_of_getElem? (i := 40) rfl)) (by decide) HH117 hEL rfl (by decide) (W := 0) (by decide) (by decide) (by decide) [(.int p1), nv] [] (by rw [hml]; rfl) (own_forType l Z a0 hw p1 zc en em nv q T117.heap n0 hEL f119 SC hzc HS SE XE FE f120) own_pd8 rfl rfl rfl (hb hby at_230) rfl ?_
    intro v121 T121 L121 X121 hQ121 hZ hown HH121 A121
    obtain ⟨op121, rfl, Nq121, Kq121, Eo121, Fo121⟩ := hQ121
    have N121 := Fr.app N117 Nq121
    have K122 := K118.trans Kq121 all0
    show own_Ends p e below _ (T121.setTop (mkF m 233 #[.val (.int p1), .val (.int p2), .val (.int p3), .val (.long p4), .second, .val (.ref b1), .val (.int p1), .val nv, .val (own_exp en p1 q), .unset] [(.ref op121)]))
    refine own_astore X121 hx #[.val (.int p1), .val (.int p2), .val (.int p3), .val (.long p4), .second, .val (.ref b1), .val (.int p1), .val nv, .val (own_exp en p1 q), .val (.ref op121)] (hb hby at_233) rfl rfl rfl ?_
    refine own_aload X121 hx (hb hby at_235) rfl rfl rfl ?_
    refine own_ifnullF X121 hx (hb hby at_237) rfl ?_
    refine own_aload X121 hx (hb hby at_240) rfl rfl rfl ?_
    refine own_aconst_null X121 hx (hb hby at_242) rfl ?_
    refine own_virtual X121 hx hZ (y := (⟨"java/util/Optional", "orElse", "(Ljava/lang/Object;)Ljava/lang/Object;"⟩ : MethodName)) (z := (⟨"java/util/Optional", "orElse", "(Ljava/lang/Object;)Ljava/lang/Object;"⟩ : MethodName)) hown (hw _ (List.mem_of_getElem? (i := 46) rfl)) (hw _ (List.mem_of_getElem? (i := 47) rfl)) (notFace_of_selects (args := #[]) (mvT hZ (hw _ (List.mem_of_getElem? (i := 49) rfl)))) (hw _ (List.mem_of_getElem? (i := 49) rfl)) (hw _ (List.mem_of_getElem? (i := 48) rfl)) (hw _ (List.mem_of_getElem? (i := 43) rfl)) (hw _ (List.mem_of_getElem? (i := 50) rfl)) (by decide) rfl (by decide) (W := 0) (by decide) (by decide) (by decide) [.null] [] (by rw [hml]; rfl) Eo121 (own_orElse l Z a0 hw op121 (own_exp en p1 q) T121.heap n0 (own_expR en p1 q) Fo121) own_pd9 rfl rfl rfl (hb hby at_243) rfl ?_
    intro v123 T123 L123 X123 hQ123
    obtain ⟨rfl, Nq123, hh123⟩ := hQ123
    have N123 := Fr.app N121 Nq123
    show own_Ends p e below _ (T123.setTop (mkF m 246 #[.val (.int p1), .val (.int p2), .val (.int p3), .val (.long p4), .second, .val (.ref b1), .val (.int p1), .val nv, .val (own_exp en p1 q), .val (.ref op121)] [(own_exp en p1 q)]))
    refine own_aload X123 hx (hb hby at_246) rfl (own_expR en p1 q) rfl ?_
    refine own_acmp X123 hx (hb hby at_248) (own_expR en p1 q) (own_expR en p1 q) (by decide) rfl rfl (fun hc248_124 => absurd hc248_124 (by simp [acV])) (fun hc248_124 => ?_)
    refine own_iconst X123 hx (1 : Int32) (hb hby at_251) (by decide) rfl ?_
    refine own_goto X123 hx (hb hby at_252) (by decide) rfl ?_
    exact own_retNH X123 hx hZ hh123 HH121 hEL hlocks hret (by simp) (hb hby at_256) (by decide) (by decide) (by decide) ⟨rfl, N123⟩
theorem own_fldN {args : Array Value} {s : State} {t : Term} {y : Addr} {O n d : String} (ev : t.eval args s none [] s = some (.ref y)) (h : (Jvm.Cond.eq (.field t O n d) .null).value args s none s [] = some true) : Fld s s.heap y O n d .null := by
  refine Fld.start ?_
  have e1 := fld_at (C := O) (n := n) (dd := d) ev
  cases hv : s.fieldOf? y O n d with
  | none => simp [Cond.value, e1, hv] at h
  | some v =>
    have e2 : Term.null.eval args s none [] s = some .null := rfl
    rw [hv] at e1
    cases v <;> simp_all [Cond.value]
def own_sel (L : List Addr) (j : Nat) : Addr := L.getD j 0
set_option maxRecDepth 65536 in
set_option maxHeartbeats 40000000 in
theorem comes_1 {Post : Tables → Env → Array Value → State → Outcome → State → Prop} (hpost : ∀ tb e args s v u, (limb_1_1.after args s (.returned v) u = true ∧ limb_1_2.after args s (.returned v) u = true ∧ True) → ReturnedEndW s (.returned v) u (Jvm.fieldLocs frame_1_writes args s ++ Jvm.arrayLocs frame_1_arrays args s ++ Jvm.staticLocs frame_1_statics s) 56 17664 → Post tb e args s (.returned v) u) :
    ArmFor flags0 classFile x code maxLocals ret World_1 tables_1 room_1 Calls_1 rest_1 Pre_1 Post := by
  intro l hfl _ _ p e ha hc hk s m args below hf hA hF happ hP
  obtain ⟨hcalls, hrest, hpre⟩ := hP
  obtain ⟨-, -, -, hnamed, -, -, -, hat⟩ := (Spec.applies_iff hf).mp happ
  obtain ⟨hg, hn⟩ := and_e (Cond.before_iff.mp (show (Jvm.Cond.and given_1 narrow_1).before args s = true from hpre))
  obtain ⟨k1a, k1b⟩ := and_e hg
  obtain ⟨k2a, k2b⟩ := and_e k1b
  obtain ⟨k3a, k3b⟩ := and_e k2b
  obtain ⟨k4a, k4b⟩ := and_e k3b
  obtain ⟨k5a, k5b⟩ := and_e hn
  obtain ⟨k6a, k6b⟩ := and_e k5b
  obtain ⟨k7a, k7b⟩ := and_e k6b
  obtain ⟨k8a, k8b⟩ := and_e k7b
  obtain ⟨k9a, k9b⟩ := and_e k8b
  obtain ⟨k10a, k10b⟩ := and_e k9b
  obtain ⟨k11a, k11b⟩ := and_e k10b
  obtain ⟨k12a, k12b⟩ := and_e k11b
  obtain ⟨k13a, k13b⟩ := and_e k12b
  obtain ⟨k14a, k14b⟩ := and_e k13b
  obtain ⟨k15a, k15b⟩ := and_e k14b
  obtain ⟨k16a, k16b⟩ := and_e k15b
  obtain ⟨k17a, k17b⟩ := and_e k16b
  obtain ⟨w0, w1, w2, w3, rfl⟩ : ∃ w0 w1 w2 w3 : Value, args = #[w0, w1, w2, w3] := by
    have hs : args.size = 4 := by simpa [Cond.value, given_1] using k1a
    obtain ⟨L⟩ := args
    match L, hs with
    | [w0, w1, w2, w3], _ => exact ⟨w0, w1, w2, w3, rfl⟩
  have hw := fun d (hd : d ∈ tables_1) => atoms_spec (ws := Jvm.Cond.code x code maxLocals ret :: tables_1) hat d (List.mem_cons_of_mem _ hd)
  have hfit : Fit s := fun {y c} hc i hi => by
    obtain ⟨ha, rfl⟩ := Array.getElem?_eq_some_iff.mp hc
    have q := List.all_eq_true.mp ((Array.all_eq_true_iff_forall_mem.mp hF) _ (Array.getElem_mem ha)) i (List.mem_range.mpr hi)
    simpa [Array.getElem?_eq_getElem hi] using q
  obtain ⟨hsets, hown0⟩ := atoms_of _ (rest_1_c_eq ▸ (show rest_1_c.before _ s = true from hrest))
  obtain ⟨i0, ei0⟩ := is_v k2a
  obtain rfl : w0 = (.int i0) := Option.some.inj ei0
  obtain ⟨i1, ei1⟩ := is_v k3a
  obtain rfl : w1 = (.int i1) := Option.some.inj ei1
  obtain ⟨i2, ei2⟩ := is_v k4a
  obtain rfl : w2 = (.int i2) := Option.some.inj ei2
  obtain ⟨i3, ei3⟩ := isL_v k4b
  obtain rfl : w3 = (.long i3) := Option.some.inj ei3
  have nzc := not_v (Cond.before_iff.mp (hsets _ (List.mem_of_getElem? (i := 2) rfl)))
  obtain ⟨zc, ezc⟩ := is_v (Cond.before_iff.mp (hsets _ (List.mem_of_getElem? (i := 1) rfl)))
  have SC := Sta.start ezc (Or.inl (hsets _ (List.mem_of_getElem? (i := 0) rfl)))
  have hzc : ¬ (zc = (0 : Int32)) := gotF (Cond.eq_ints ezc (Term.int_eval (0))) nzc
  have hEL : EW s _ consts_1 := (EW.cons (hw _ (List.mem_of_getElem? (i := 109) rfl)) (by decide) (EW.cons (hw _ (List.mem_of_getElem? (i := 69) rfl)) (by decide) (EW.cons (hw _ (List.mem_of_getElem? (i := 134) rfl)) (by decide) (EW.cons (hw _ (List.mem_of_getElem? (i := 128) rfl)) (by decide) (EW.cons (hw _ (List.mem_of_getElem? (i := 132) rfl)) (by decide) (EW.cons (hw _ (List.mem_of_getElem? (i := 98) rfl)) (by decide) (EW.cons (hw _ (List.mem_of_getElem? (i := 99) rfl)) (by decide) (EW.cons (hw _ (List.mem_of_getElem? (i := 100) rfl)) (by decide) (EW.cons (hw _ (List.mem_of_getElem? (i := 16) rfl)) (by decide) (EW.cons (hw _ (List.mem_of_getElem? (i := 5) rfl)) (by decide) (EW.cons (hw _ (List.mem_of_getElem? (i := 31) rfl)) (by decide) (EW.cons (hw _ (List.mem_of_getElem? (i := 32) rfl)) (by decide) (EW.cons (hw _ (List.mem_of_getElem? (i := 33) rfl)) (by decide) (EW.cons (hw _ (List.mem_of_getElem? (i := 34) rfl)) (by decide) (EW.cons (hw _ (List.mem_of_getElem? (i := 35) rfl)) (by decide) (EW.cons (hw _ (List.mem_of_getElem? (i := 36) rfl)) (by decide) (EW.cons (hw _ (List.mem_of_getElem? (i := 66) rfl)) (by decide) EW.nil)))))))))))))))))
  have hCH := CHv.start hEL (fun p hp => (hcalls.1 p hp :)) (show Jvm.Lit.compactW.before _ s = true from (hsets _ (List.mem_of_getElem? (i := 2) rfl))) (hw _ (List.mem_of_getElem? (i := 8) rfl)) (hw _ (List.mem_of_getElem? (i := 7) rfl))
  obtain ⟨o_FLOAT64, eo_FLOAT64⟩ := exa_v k5a
  have so_FLOAT64 := Sta.start eo_FLOAT64 (Or.inr ⟨(hw _ (List.mem_of_getElem? (i := 39) rfl)), (hw _ (List.mem_of_getElem? (i := 68) rfl))⟩)
  obtain ⟨o_DECIMAL, eo_DECIMAL⟩ := exa_v k6a
  have so_DECIMAL := Sta.start eo_DECIMAL (Or.inr ⟨(hw _ (List.mem_of_getElem? (i := 39) rfl)), (hw _ (List.mem_of_getElem? (i := 90) rfl))⟩)
  obtain ⟨o_FLOAT32, eo_FLOAT32⟩ := exa_v k7a
  have so_FLOAT32 := Sta.start eo_FLOAT32 (Or.inr ⟨(hw _ (List.mem_of_getElem? (i := 39) rfl)), (hw _ (List.mem_of_getElem? (i := 93) rfl))⟩)
  obtain ⟨o_INT16, eo_INT16⟩ := exa_v k8a
  have so_INT16 := Sta.start eo_INT16 (Or.inr ⟨(hw _ (List.mem_of_getElem? (i := 39) rfl)), (hw _ (List.mem_of_getElem? (i := 102) rfl))⟩)
  obtain ⟨o_UTF8, eo_UTF8⟩ := exa_v k9a
  have so_UTF8 := Sta.start eo_UTF8 (Or.inr ⟨(hw _ (List.mem_of_getElem? (i := 39) rfl)), (hw _ (List.mem_of_getElem? (i := 105) rfl))⟩)
  obtain ⟨o_INT64, eo_INT64⟩ := exa_v k10a
  have so_INT64 := Sta.start eo_INT64 (Or.inr ⟨(hw _ (List.mem_of_getElem? (i := 39) rfl)), (hw _ (List.mem_of_getElem? (i := 108) rfl))⟩)
  obtain ⟨o_INT32, eo_INT32⟩ := exa_v k11a
  have so_INT32 := Sta.start eo_INT32 (Or.inr ⟨(hw _ (List.mem_of_getElem? (i := 39) rfl)), (hw _ (List.mem_of_getElem? (i := 112) rfl))⟩)
  obtain ⟨o_BYTES, eo_BYTES⟩ := exa_v k12a
  have so_BYTES := Sta.start eo_BYTES (Or.inr ⟨(hw _ (List.mem_of_getElem? (i := 39) rfl)), (hw _ (List.mem_of_getElem? (i := 115) rfl))⟩)
  obtain ⟨o_BOOLEAN, eo_BOOLEAN⟩ := exa_v k13a
  have so_BOOLEAN := Sta.start eo_BOOLEAN (Or.inr ⟨(hw _ (List.mem_of_getElem? (i := 39) rfl)), (hw _ (List.mem_of_getElem? (i := 118) rfl))⟩)
  obtain ⟨o_DATE, eo_DATE⟩ := exa_v k14a
  have so_DATE := Sta.start eo_DATE (Or.inr ⟨(hw _ (List.mem_of_getElem? (i := 39) rfl)), (hw _ (List.mem_of_getElem? (i := 121) rfl))⟩)
  obtain ⟨o_INSTANT, eo_INSTANT⟩ := exa_v k15a
  have so_INSTANT := Sta.start eo_INSTANT (Or.inr ⟨(hw _ (List.mem_of_getElem? (i := 39) rfl)), (hw _ (List.mem_of_getElem? (i := 124) rfl))⟩)
  obtain ⟨o_TIME, eo_TIME⟩ := exa_v k16a
  have so_TIME := Sta.start eo_TIME (Or.inr ⟨(hw _ (List.mem_of_getElem? (i := 39) rfl)), (hw _ (List.mem_of_getElem? (i := 127) rfl))⟩)
  obtain ⟨o_TIMESTAMP, eo_TIMESTAMP⟩ := exa_v k17a
  have so_TIMESTAMP := Sta.start eo_TIMESTAMP (Or.inr ⟨(hw _ (List.mem_of_getElem? (i := 39) rfl)), (hw _ (List.mem_of_getElem? (i := 131) rfl))⟩)
  obtain ⟨o_UUID, eo_UUID⟩ := exa_v k17b
  have so_UUID := Sta.start eo_UUID (Or.inr ⟨(hw _ (List.mem_of_getElem? (i := 39) rfl)), (hw _ (List.mem_of_getElem? (i := 136) rfl))⟩)
  have HS : ∀ q ∈ own_names, Sta s s.heap "com/example/kinfold/kinfold/ValueEncoding" q.1 "Lcom/example/kinfold/kinfold/ValueEncoding;" (.ref (own_sel [o_INT16, o_INT32, o_INT64, o_FLOAT32, o_FLOAT64, o_DECIMAL, o_BOOLEAN, o_UTF8, o_DATE, o_TIME, o_TIMESTAMP, o_INSTANT, o_BYTES, o_UUID] q.2)) := by
    intro q hq
    simp only [own_names, List.mem_cons, List.not_mem_nil, or_false] at hq
    rcases hq with rfl | rfl | rfl | rfl | rfl | rfl | rfl | rfl | rfl | rfl | rfl | rfl | rfl | rfl
    · exact so_INT16
    · exact so_INT32
    · exact so_INT64
    · exact so_FLOAT32
    · exact so_FLOAT64
    · exact so_DECIMAL
    · exact so_BOOLEAN
    · exact so_UTF8
    · exact so_DATE
    · exact so_TIME
    · exact so_TIMESTAMP
    · exact so_INSTANT
    · exact so_BYTES
    · exact so_UUID
  have hxe := Cond.before_iff.mp (hsets _ (List.mem_of_getElem? (i := 11) rfl))
  obtain ⟨em, eem⟩ := exa_v hxe
  have XE := Exa.start eem hxe
  have SE := Sta.start eem (Or.inl (hsets _ (List.mem_of_getElem? (i := 10) rfl)))
  have FE := own_fldN eem (Cond.before_iff.mp (hsets _ (List.mem_of_getElem? (i := 12) rfl)))
  obtain ⟨n, o, h1, h2, h3, _, L, rfl, ⟨rfl, N⟩, hC, hq⟩ := own_law l s _ hw i0 i1 i2 i3 zc (own_sel [o_INT16, o_INT32, o_INT64, o_FLOAT32, o_FLOAT64, o_DECIMAL, o_BOOLEAN, o_UTF8, o_DATE, o_TIME, o_TIMESTAMP, o_INSTANT, o_BYTES, o_UUID]) em s.heap s.heap.size hEL (Old.start s) SC hzc HS SE XE FE tables_1 p e ha hc hk s m _ below hf ((Spec.applies_iff_loose hf).mp happ).1 ⟨rfl, State.Warmed39.refl s, rfl, hCH⟩ trivial
  refine ⟨n, _, h1, h2, h3, hpost _ _ _ _ _ _ ⟨Cond.after_iff.mpr rfl, Cond.after_iff.mpr (eq_i res_at (Term.int_eval (1)) rfl), trivial⟩ ⟨hq.1, hq.2.1, hq.2.2.1, (hq.2.2.2.sift fun y hy => Or.inr (N y hy)).mono (by decide) (by decide)⟩⟩
theorem main_1_1 : Claimed_1_1 := comes_1 fun _ _ _ _ _ _ h hF => ⟨h.1, hF⟩
theorem main_1_2 : Claimed_1_2 := comes_1 fun _ _ _ _ _ _ h hF => ⟨h.2.1, hF⟩
end Jvm.Pilot.@@N@@
namespace Jvm.Pilot.@@N@@
open Jvm Jvm.ClassFile Sem Op Lib Jvm.Free Jvm.Stand Jvm.Pilot.@@N@@.Jvm.D
/-! MADE BY PROGRAM (witnessworld.py) out of the Statement's table words and the real class files: 36 classes; the members and pool entries that the words name. The judged class is class 1, her method 1. -/
namespace start1
open Jvm.ClassFile
def u (s : String) : CpInfo := .utf8 (stringToUtf16 s)
/-- a pool by its gaps: so many unusable entries, then the entry; so many at the end -/
def gap : Nat → List CpInfo → List CpInfo
  | 0, r => r
  | n + 1, r => .unusable :: gap n r
def poolList (es : List (Nat × CpInfo)) (last : Nat) : List CpInfo := es.foldr (fun e r => gap e.1 (e.2 :: r)) (gap last [])
def pool (es : List (Nat × CpInfo)) (last : Nat) : Array CpInfo := ⟨poolList es last⟩
def fileOf (pool : Array CpInfo) (this : Nat) (attrs : Array Attribute := #[]) (ms : Array MethodInfo := #[]) (fl : Nat := 33) (sup : Nat := 0) (ifs : Array Nat := #[]) (fds : Array FieldInfo := #[]) : ClassFile where
  minorVersion := 0
  majorVersion := 65
  constantPool := pool
  accessFlags := fl
  thisClass := this
  superClass := sup
  interfaces := ifs
  fields := fds
  methods := ms
  attributes := attrs
def plain (name : String) (sup : Option ClassId) : Class where
  name := name
  kind := .ordinary
  loader := none
  accessFlags := 33
  super := sup
  interfaces := #[]
  cf := none
  fields := #[]
  methods := #[]
  instanceTypes := #[]
  staticTypes := #[]
  resolved := #[]
  callSites := []
  init := .initialized
  statics := none
  mirror := none

def pool0 : Array CpInfo := pool [(5, u "<init>"), (0, u "()V"), (1, .class_ 10), (1, u "java/lang/Object")] 113

def k0c0 : Code := { maxStack := 0, maxLocals := 1, code := object_method_1_code, exceptionTable := #[], attributes := #[] }
def k0m0 : Method := { name := "<init>", desc := "()V", sig := { parameters := [], returnType := none }, accessFlags := 1, code := some k0c0 }
/-- java/lang/Object -/
def k0 : Class := { plain "java/lang/Object" none with
  accessFlags := 33
  interfaces := #[]
  cf := some (fileOf pool0 8 #[] #[{ accessFlags := 1, nameIndex := 5, descriptorIndex := 6, attributes := #[] }] 33 0 #[] #[])
  fields := #[]
  methods := #[k0m0]
  instanceTypes := #[]
  staticTypes := #[]
  resolved := Array.replicate 124 none
  statics := none }

def pool1 : Array CpInfo := pool [(2, .class_ 4), (1, u "java/lang/Object"), (0, u "<init>"), (0, u "()V"), (0, .methodref 8 9), (0, .class_ 10), (0, .nameAndType 11 12), (0, u "com/example/kinfold/kinfold/ValueEncodingForTypePinLaw"), (0, u "typeName"), (0, u "(IJ)Ljava/lang/String;"), (0, .methodref 8 14), (0, .nameAndType 15 16), (0, u "expected"), (0, u "(ILjava/lang/String;)Lcom/example/kinfold/kinfold/ValueEncoding;"), (0, .methodref 18 19), (0, .class_ 20), (0, .nameAndType 21 22), (0, u "com/example/kinfold/kinfold/ValueEncoding"), (0, u "forType"), (0, u "(ILjava/lang/String;)Ljava/util/Optional;"), (0, .methodref 24 25), (0, .class_ 26), (0, .nameAndType 27 28), (0, u "java/util/Optional"), (0, u "orElse"), (0, u "(Ljava/lang/Object;)Ljava/lang/Object;"), (0, .string 30), (0, u "oid"), (0, .string 32), (0, u "money"), (0, .string 34), (0, u "bool"), (0, .string 36), (0, u "timetz"), (0, .string 38), (0, u "timestamptz"), (0, .string 40), (0, u "json"), (0, .string 42), (0, u "jsonb"), (0, .string 44), (0, u "uuid"), (0, .integer 2147483647), (0, .long 255), (1, .class_ 49), (0, u "java/lang/String"), (0, .methodref 48 51), (0, .nameAndType 5 52), (0, u "([C)V"), (0, .methodref 48 54), (0, .nameAndType 55 56), (0, u "equals"), (0, u "(Ljava/lang/Object;)Z"), (0, .fieldref 18 58), (0, .nameAndType 59 60), (0, u "INT16"), (0, u "Lcom/example/kinfold/kinfold/ValueEncoding;"), (0, .fieldref 18 62), (0, .nameAndType 63 60), (0, u "INT32"), (0, .fieldref 18 65), (0, .nameAndType 66 60), (0, u "INT64"), (0, .fieldref 18 68), (0, .nameAndType 69 60), (0, u "FLOAT32"), (0, .fieldref 18 71), (0, .nameAndType 72 60), (0, u "FLOAT64"), (0, .fieldref 18 74), (0, .nameAndType 75 60), (0, u "DECIMAL"), (0, .fieldref 18 77), (0, .nameAndType 78 60), (0, u "BOOLEAN"), (0, .fieldref 18 80), (0, .nameAndType 81 60), (0, u "UTF8"), (0, .fieldref 18 83), (0, .nameAndType 84 60), (0, u "DATE"), (0, .fieldref 18 86), (0, .nameAndType 87 60), (0, u "TIME"), (0, .fieldref 18 89), (0, .nameAndType 90 60), (0, u "INSTANT"), (0, .fieldref 18 92), (0, .nameAndType 93 60), (0, u "TIMESTAMP"), (0, .fieldref 18 95), (0, .nameAndType 96 60), (0, u "BYTES"), (0, .fieldref 18 98), (0, .nameAndType 99 60), (0, u "UUID"), (2, u "law"), (0, u "(IIIJ)Z")] 5

def k1m0 : Method := { name := "<init>", desc := "()V", sig := { parameters := [], returnType := none }, accessFlags := 2, code := none }
def k1c1 : Code := { maxStack := 4, maxLocals := 10, code := code, exceptionTable := #[], attributes := #[] }
def k1m1 : Method := { name := "law", desc := "(IIIJ)Z", sig := { parameters := [.int, .int, .int, .long], returnType := some .boolean }, accessFlags := 9, code := some k1c1 }
def k1c2 : Code := { maxStack := 6, maxLocals := 9, code := method_3_code, exceptionTable := #[], attributes := #[] }
def k1m2 : Method := { name := "typeName", desc := "(IJ)Ljava/lang/String;", sig := { parameters := [.int, .long], returnType := some (.object "java/lang/String") }, accessFlags := 10, code := some k1c2 }
def k1c3 : Code := { maxStack := 2, maxLocals := 9, code := method_4_code, exceptionTable := #[], attributes := #[] }
def k1m3 : Method := { name := "expected", desc := "(ILjava/lang/String;)Lcom/example/kinfold/kinfold/ValueEncoding;", sig := { parameters := [.int, (.object "java/lang/String")], returnType := some (.object "com/example/kinfold/kinfold/ValueEncoding") }, accessFlags := 10, code := some k1c3 }
/-- com/example/kinfold/kinfold/ValueEncodingForTypePinLaw -/
def k1 : Class := { plain "com/example/kinfold/kinfold/ValueEncodingForTypePinLaw" (some 0) with
  accessFlags := 49
  interfaces := #[]
  cf := some (fileOf pool1 8 #[] #[{ accessFlags := 2, nameIndex := 5, descriptorIndex := 6, attributes := #[] }, { accessFlags := 9, nameIndex := 102, descriptorIndex := 103, attributes := #[] }, { accessFlags := 10, nameIndex := 11, descriptorIndex := 12, attributes := #[] }, { accessFlags := 10, nameIndex := 15, descriptorIndex := 16, attributes := #[] }] 49 2 #[] #[])
  fields := #[]
  methods := #[k1m0, k1m1, k1m2, k1m3]
  instanceTypes := #[]
  staticTypes := #[]
  resolved := Array.replicate 109 none
  statics := none }

def pool2 : Array CpInfo := pool [(1, .class_ 2), (0, u "java/io/Serializable"), (0, .class_ 4), (0, u "java/lang/Object")] 2

/-- java/io/Serializable -/
def k2 : Class := { plain "java/io/Serializable" (some 0) with
  accessFlags := 1537
  interfaces := #[]
  cf := some (fileOf pool2 1 #[] #[] 1537 3 #[] #[])
  fields := #[]
  methods := #[]
  instanceTypes := #[]
  staticTypes := #[]
  resolved := Array.replicate 7 none
  statics := none }

def pool3 : Array CpInfo := pool [(1, .class_ 2), (0, u "java/lang/Comparable"), (0, .class_ 4), (0, u "java/lang/Object")] 7

/-- java/lang/Comparable -/
def k3 : Class := { plain "java/lang/Comparable" (some 0) with
  accessFlags := 1537
  interfaces := #[]
  cf := some (fileOf pool3 1 #[] #[] 1537 3 #[] #[])
  fields := #[]
  methods := #[]
  instanceTypes := #[]
  staticTypes := #[]
  resolved := Array.replicate 12 none
  statics := none }

def pool4 : Array CpInfo := pool [(2, .class_ 4), (1, u "java/lang/CharSequence"), (42, .class_ 48), (0, u "java/lang/CharSequence$1CodePointIterator"), (10, .class_ 60), (0, u "java/lang/CharSequence$1CharIterator"), (5, .class_ 67), (0, u "java/lang/Object")] 63

/-- java/lang/CharSequence -/
def k4 : Class := { plain "java/lang/CharSequence" (some 0) with
  accessFlags := 1537
  interfaces := #[]
  cf := some (fileOf pool4 2 #[.nestMembers #[47, 59]] #[] 1537 66 #[] #[])
  fields := #[]
  methods := #[]
  instanceTypes := #[]
  staticTypes := #[]
  resolved := Array.replicate 131 none
  statics := none }

def pool5 : Array CpInfo := pool [(1, .class_ 2), (0, u "java/lang/constant/Constable"), (0, .class_ 4), (0, u "java/lang/Object")] 6

/-- java/lang/constant/Constable -/
def k5 : Class := { plain "java/lang/constant/Constable" (some 0) with
  accessFlags := 1537
  interfaces := #[]
  cf := some (fileOf pool5 1 #[] #[] 1537 3 #[] #[])
  fields := #[]
  methods := #[]
  instanceTypes := #[]
  staticTypes := #[]
  resolved := Array.replicate 11 none
  statics := none }

def pool6 : Array CpInfo := pool [(1, .class_ 2), (0, u "java/lang/constant/ConstantDesc"), (0, .class_ 4), (0, u "java/lang/Object")] 32

/-- java/lang/constant/ConstantDesc -/
def k6 : Class := { plain "java/lang/constant/ConstantDesc" (some 0) with
  accessFlags := 1537
  interfaces := #[]
  cf := some (fileOf pool6 1 #[] #[] 1537 3 #[] #[])
  fields := #[]
  methods := #[]
  instanceTypes := #[]
  staticTypes := #[]
  resolved := Array.replicate 37 none
  statics := none }

def pool7 : Array CpInfo := pool [(1, .methodref 2 3), (0, .class_ 4), (0, .nameAndType 5 6), (0, u "java/lang/Object"), (0, u "<init>"), (0, u "()V"), (0, .string 8), (0, u ""), (0, .fieldref 10 11), (0, .class_ 12), (0, .nameAndType 13 14), (0, u "java/lang/String"), (0, u "value"), (0, u "[B"), (0, .fieldref 10 16), (0, .nameAndType 17 18), (0, u "coder"), (0, u "B"), (2, u "hash"), (0, u "I"), (2, u "hashIsZero"), (0, u "Z"), (0, .methodref 10 28), (0, .nameAndType 5 29), (0, u "([CIILjava/lang/Void;)V"), (8, .fieldref 10 39), (0, .nameAndType 40 26), (0, u "COMPACT_STRINGS"), (1, .class_ 44), (1, u "java/lang/StringUTF16"), (0, u "compress"), (1, .methodref 42 48), (0, .nameAndType 49 50), (0, u "coderFromArrayLen"), (0, u "([BI)B"), (56, .class_ 109), (1, u "java/lang/StringLatin1"), (67, .methodref 42 178), (0, .nameAndType 45 179), (0, u "([CII)[B"), (361, .methodref 107 542), (0, .nameAndType 543 544), (0, u "equals"), (0, u "([B[B)Z"), (28, u "(Ljava/lang/Object;)Z"), (1, .class_ 576), (0, u "java/lang/CharSequence"), (22, u "CASE_INSENSITIVE_ORDER"), (0, u "Ljava/util/Comparator;"), (409, u "([C)V"), (90, u "serialPersistentFields"), (0, u "[Ljava/io/ObjectStreamField;"), (0, .class_ 1104), (0, u "java/lang/String$CaseInsensitiveComparator"), (1, .class_ 1107), (0, u "java/io/Serializable"), (0, .class_ 1109), (0, u "java/lang/Comparable"), (0, .class_ 1111), (0, u "java/lang/constant/Constable"), (0, .class_ 1113), (0, u "java/lang/constant/ConstantDesc"), (2, u "serialVersionUID"), (0, u "J"), (3, u "REPL"), (0, u "C"), (2, u "LATIN1"), (1, u "UTF16")] 323

def k7m0 : Method := { name := "<init>", desc := "()V", sig := { parameters := [], returnType := none }, accessFlags := 1, code := none }
def k7c1 : Code := { maxStack := 5, maxLocals := 2, code := jdk_42_method_3_code, exceptionTable := #[], attributes := #[] }
def k7m1 : Method := { name := "<init>", desc := "([C)V", sig := { parameters := [(.array .char)], returnType := none }, accessFlags := 1, code := some k7c1 }
def k7c2 : Code := { maxStack := 2, maxLocals := 3, code := jdk_42_method_66_code, exceptionTable := #[], attributes := #[] }
def k7m2 : Method := { name := "equals", desc := "(Ljava/lang/Object;)Z", sig := { parameters := [(.object "java/lang/Object")], returnType := some .boolean }, accessFlags := 1, code := some k7c2 }
def k7c3 : Code := { maxStack := 4, maxLocals := 6, code := jdk_42_method_149_code, exceptionTable := #[], attributes := #[] }
def k7m3 : Method := { name := "<init>", desc := "([CIILjava/lang/Void;)V", sig := { parameters := [(.array .char), .int, .int, (.object "java/lang/Void")], returnType := none }, accessFlags := 2, code := some k7c3 }
/-- java/lang/String -/
def k7 : Class := { plain "java/lang/String" (some 0) with
  accessFlags := 49
  interfaces := #[2, 3, 4, 5, 6]
  cf := some (fileOf pool7 10 #[.nestMembers #[1103]] #[{ accessFlags := 1, nameIndex := 5, descriptorIndex := 6, attributes := #[] }, { accessFlags := 1, nameIndex := 5, descriptorIndex := 1010, attributes := #[] }, { accessFlags := 1, nameIndex := 543, descriptorIndex := 573, attributes := #[] }, { accessFlags := 2, nameIndex := 5, descriptorIndex := 29, attributes := #[] }] 49 2 #[1106, 1108, 575, 1110, 1112] #[{ accessFlags := 18, nameIndex := 13, descriptorIndex := 14, attributes := #[] }, { accessFlags := 18, nameIndex := 17, descriptorIndex := 18, attributes := #[] }, { accessFlags := 2, nameIndex := 21, descriptorIndex := 22, attributes := #[] }, { accessFlags := 2, nameIndex := 25, descriptorIndex := 26, attributes := #[] }, { accessFlags := 26, nameIndex := 1116, descriptorIndex := 1117, attributes := #[] }, { accessFlags := 24, nameIndex := 40, descriptorIndex := 26, attributes := #[] }, { accessFlags := 26, nameIndex := 1101, descriptorIndex := 1102, attributes := #[] }, { accessFlags := 26, nameIndex := 1121, descriptorIndex := 1122, attributes := #[] }, { accessFlags := 25, nameIndex := 599, descriptorIndex := 600, attributes := #[] }, { accessFlags := 24, nameIndex := 1125, descriptorIndex := 18, attributes := #[] }, { accessFlags := 24, nameIndex := 1127, descriptorIndex := 18, attributes := #[] }])
  fields := #[{ name := "value", type := (.array .byte), accessFlags := 18, slot := 0, constantValue := 0 }, { name := "coder", type := .byte, accessFlags := 18, slot := 1, constantValue := 0 }, { name := "hash", type := .int, accessFlags := 2, slot := 2, constantValue := 0 }, { name := "hashIsZero", type := .boolean, accessFlags := 2, slot := 3, constantValue := 0 }, { name := "serialVersionUID", type := .long, accessFlags := 26, slot := 0, constantValue := 0 }, { name := "COMPACT_STRINGS", type := .boolean, accessFlags := 24, slot := 1, constantValue := 0 }, { name := "serialPersistentFields", type := (.array (.object "java/io/ObjectStreamField")), accessFlags := 26, slot := 2, constantValue := 0 }, { name := "REPL", type := .char, accessFlags := 26, slot := 3, constantValue := 0 }, { name := "CASE_INSENSITIVE_ORDER", type := (.object "java/util/Comparator"), accessFlags := 25, slot := 4, constantValue := 0 }, { name := "LATIN1", type := .byte, accessFlags := 24, slot := 5, constantValue := 0 }, { name := "UTF16", type := .byte, accessFlags := 24, slot := 6, constantValue := 0 }]
  methods := #[k7m0, k7m1, k7m2, k7m3]
  instanceTypes := #[(.array .byte), .byte, .int, .boolean]
  staticTypes := #[.long, .boolean, (.array (.object "java/io/ObjectStreamField")), .char, (.object "java/util/Comparator"), .byte, .byte]
  resolved := Array.replicate 1451 none
  statics := some 0 }

def pool8 : Array CpInfo := pool [(4, .class_ 6), (1, u "java/lang/Object"), (0, u "<init>"), (0, u "()V"), (5, .class_ 16), (1, u "java/lang/StringLatin1"), (104, u "$assertionsDisabled"), (0, u "Z"), (98, .class_ 223), (1, u "java/lang/StringLatin1$LinesSpliterator"), (57, u "equals"), (0, u "([B[B)Z"), (107, .class_ 391), (0, u "java/lang/StringLatin1$CharsSpliterator")] 3

def k8m0 : Method := { name := "<init>", desc := "()V", sig := { parameters := [], returnType := none }, accessFlags := 0, code := none }
def k8c1 : Code := { maxStack := 3, maxLocals := 3, code := jdk_43_method_13_code, exceptionTable := #[], attributes := #[] }
def k8m1 : Method := { name := "equals", desc := "([B[B)Z", sig := { parameters := [(.array .byte), (.array .byte)], returnType := some .boolean }, accessFlags := 9, code := some k8c1 }
/-- java/lang/StringLatin1 -/
def k8 : Class := { plain "java/lang/StringLatin1" (some 0) with
  accessFlags := 48
  interfaces := #[]
  cf := some (fileOf pool8 14 #[.nestMembers #[390, 221]] #[{ accessFlags := 0, nameIndex := 7, descriptorIndex := 8, attributes := #[] }, { accessFlags := 9, nameIndex := 281, descriptorIndex := 282, attributes := #[] }] 48 4 #[] #[{ accessFlags := 4120, nameIndex := 121, descriptorIndex := 122, attributes := #[] }])
  fields := #[{ name := "$assertionsDisabled", type := .boolean, accessFlags := 4120, slot := 0, constantValue := 0 }]
  methods := #[k8m0, k8m1]
  instanceTypes := #[]
  staticTypes := #[.boolean]
  resolved := Array.replicate 395 none
  statics := none }

def pool9 : Array CpInfo := pool [(2, .class_ 4), (1, u "java/lang/Enum"), (0, u "name"), (0, u "Ljava/lang/String;"), (2, u "ordinal"), (0, u "I"), (1, .class_ 14), (1, u "java/lang/Object"), (4, u "hash"), (86, .class_ 108), (1, u "java/lang/Enum$EnumDesc"), (2, .class_ 112), (0, u "java/lang/constant/Constable"), (0, .class_ 114), (0, u "java/lang/Comparable"), (0, .class_ 116), (0, u "java/io/Serializable")] 87

/-- java/lang/Enum -/
def k9 : Class := { plain "java/lang/Enum" (some 0) with
  accessFlags := 1057
  interfaces := #[5, 3, 2]
  cf := some (fileOf pool9 2 #[.nestMembers #[106]] #[] 1057 12 #[111, 113, 115] #[{ accessFlags := 18, nameIndex := 5, descriptorIndex := 6, attributes := #[] }, { accessFlags := 18, nameIndex := 9, descriptorIndex := 10, attributes := #[] }, { accessFlags := 2, nameIndex := 19, descriptorIndex := 10, attributes := #[] }])
  fields := #[{ name := "name", type := (.object "java/lang/String"), accessFlags := 18, slot := 0, constantValue := 0 }, { name := "ordinal", type := .int, accessFlags := 18, slot := 1, constantValue := 0 }, { name := "hash", type := .int, accessFlags := 2, slot := 2, constantValue := 0 }]
  methods := #[]
  instanceTypes := #[(.object "java/lang/String"), .int, .int]
  staticTypes := #[]
  resolved := Array.replicate 204 none
  statics := none }

def pool10 : Array CpInfo := pool [(1, .class_ 2), (0, u "com/example/kinfold/kinfold/ValueEncoding"), (0, .fieldref 1 4), (0, .nameAndType 5 6), (0, u "INT16"), (0, u "Lcom/example/kinfold/kinfold/ValueEncoding;"), (0, .fieldref 1 8), (0, .nameAndType 9 6), (0, u "INT32"), (0, .fieldref 1 11), (0, .nameAndType 12 6), (0, u "INT64"), (0, .fieldref 1 14), (0, .nameAndType 15 6), (0, u "FLOAT32"), (0, .fieldref 1 17), (0, .nameAndType 18 6), (0, u "FLOAT64"), (0, .fieldref 1 20), (0, .nameAndType 21 6), (0, u "DECIMAL"), (0, .fieldref 1 23), (0, .nameAndType 24 6), (0, u "BOOLEAN"), (0, .fieldref 1 26), (0, .nameAndType 27 6), (0, u "UTF8"), (0, .fieldref 1 29), (0, .nameAndType 30 6), (0, u "DATE"), (0, .fieldref 1 32), (0, .nameAndType 33 6), (0, u "TIME"), (0, .fieldref 1 35), (0, .nameAndType 36 6), (0, u "TIMESTAMP"), (0, .fieldref 1 38), (0, .nameAndType 39 6), (0, u "INSTANT"), (0, .fieldref 1 41), (0, .nameAndType 42 6), (0, u "BYTES"), (0, .fieldref 1 44), (0, .nameAndType 45 6), (0, u "UUID"), (2, u "$VALUES"), (0, u "[Lcom/example/kinfold/kinfold/ValueEncoding;"), (6, .class_ 58), (1, u "java/lang/Enum"), (8, u "fixedWidth"), (0, u "Z"), (0, .string 70), (0, u "oid"), (0, .methodref 72 73), (0, .class_ 74), (0, .nameAndType 75 76), (0, u "java/lang/String"), (0, u "equals"), (0, u "(Ljava/lang/Object;)Z"), (0, .string 78), (0, u "money"), (0, .string 80), (0, u "bool"), (0, .string 82), (0, u "timetz"), (0, .string 84), (0, u "timestamptz"), (0, .methodref 1 86), (0, .nameAndType 87 88), (0, u "forOtherType"), (0, u "(Ljava/lang/String;)Lcom/example/kinfold/kinfold/ValueEncoding;"), (0, .methodref 90 91), (0, .class_ 92), (0, .nameAndType 93 94), (0, u "java/util/Optional"), (0, u "ofNullable"), (0, u "(Ljava/lang/Object;)Ljava/util/Optional;"), (0, .string 96), (0, u "json"), (0, .string 98), (0, u "jsonb"), (0, .string 100), (0, u "uuid"), (9, .class_ 111), (0, u "com/example/kinfold/kinfold/ValueEncoding$UnencodableException"), (46, .class_ 159), (0, u "com/example/kinfold/kinfold/ValueEncoding$1"), (4, .class_ 165), (0, u "com/example/kinfold/kinfold/ValueEncoding$2"), (2, .class_ 169), (0, u "com/example/kinfold/kinfold/ValueEncoding$3"), (2, .class_ 173), (0, u "com/example/kinfold/kinfold/ValueEncoding$4"), (2, .class_ 177), (0, u "com/example/kinfold/kinfold/ValueEncoding$5"), (2, .class_ 181), (0, u "com/example/kinfold/kinfold/ValueEncoding$6"), (2, .class_ 185), (0, u "com/example/kinfold/kinfold/ValueEncoding$7"), (2, .class_ 189), (0, u "com/example/kinfold/kinfold/ValueEncoding$8"), (2, .class_ 193), (0, u "com/example/kinfold/kinfold/ValueEncoding$9"), (2, .class_ 197), (0, u "com/example/kinfold/kinfold/ValueEncoding$10"), (2, .class_ 201), (0, u "com/example/kinfold/kinfold/ValueEncoding$11"), (2, .class_ 205), (0, u "com/example/kinfold/kinfold/ValueEncoding$12"), (2, .class_ 209), (0, u "com/example/kinfold/kinfold/ValueEncoding$13"), (2, .class_ 213), (0, u "com/example/kinfold/kinfold/ValueEncoding$14"), (6, u "MICROS_PER_SECOND"), (0, u "J"), (1, u "MICROS_PER_DAY"), (2, u "NANOS_PER_MICRO"), (0, u "I"), (1, u "UUID_BYTES"), (1, u "TRUE"), (0, u "B"), (1, u "FALSE"), (13, u "forType"), (0, u "(ILjava/lang/String;)Ljava/util/Optional;")] 34

def k10c0 : Code := { maxStack := 2, maxLocals := 3, code := prog_29_method_6_code, exceptionTable := #[], attributes := #[] }
def k10m0 : Method := { name := "forType", desc := "(ILjava/lang/String;)Ljava/util/Optional;", sig := { parameters := [.int, (.object "java/lang/String")], returnType := some (.object "java/util/Optional") }, accessFlags := 8, code := some k10c0 }
def k10c1 : Code := { maxStack := 2, maxLocals := 2, code := prog_29_method_7_code, exceptionTable := #[], attributes := #[] }
def k10m1 : Method := { name := "forOtherType", desc := "(Ljava/lang/String;)Lcom/example/kinfold/kinfold/ValueEncoding;", sig := { parameters := [(.object "java/lang/String")], returnType := some (.object "com/example/kinfold/kinfold/ValueEncoding") }, accessFlags := 10, code := some k10c1 }
/-- com/example/kinfold/kinfold/ValueEncoding -/
def k10 : Class := { plain "com/example/kinfold/kinfold/ValueEncoding" (some 9) with
  accessFlags := 17440
  interfaces := #[]
  cf := some (fileOf pool10 1 #[.nestMembers #[110, 212, 208, 204, 200, 196, 192, 188, 184, 180, 176, 172, 168, 164, 158]] #[{ accessFlags := 8, nameIndex := 248, descriptorIndex := 249, attributes := #[] }, { accessFlags := 10, nameIndex := 87, descriptorIndex := 88, attributes := #[] }] 17440 56 #[] #[{ accessFlags := 16409, nameIndex := 5, descriptorIndex := 6, attributes := #[] }, { accessFlags := 16409, nameIndex := 9, descriptorIndex := 6, attributes := #[] }, { accessFlags := 16409, nameIndex := 12, descriptorIndex := 6, attributes := #[] }, { accessFlags := 16409, nameIndex := 15, descriptorIndex := 6, attributes := #[] }, { accessFlags := 16409, nameIndex := 18, descriptorIndex := 6, attributes := #[] }, { accessFlags := 16409, nameIndex := 21, descriptorIndex := 6, attributes := #[] }, { accessFlags := 16409, nameIndex := 24, descriptorIndex := 6, attributes := #[] }, { accessFlags := 16409, nameIndex := 27, descriptorIndex := 6, attributes := #[] }, { accessFlags := 16409, nameIndex := 30, descriptorIndex := 6, attributes := #[] }, { accessFlags := 16409, nameIndex := 33, descriptorIndex := 6, attributes := #[] }, { accessFlags := 16409, nameIndex := 36, descriptorIndex := 6, attributes := #[] }, { accessFlags := 16409, nameIndex := 39, descriptorIndex := 6, attributes := #[] }, { accessFlags := 16409, nameIndex := 42, descriptorIndex := 6, attributes := #[] }, { accessFlags := 16409, nameIndex := 45, descriptorIndex := 6, attributes := #[] }, { accessFlags := 26, nameIndex := 220, descriptorIndex := 221, attributes := #[] }, { accessFlags := 26, nameIndex := 223, descriptorIndex := 221, attributes := #[] }, { accessFlags := 26, nameIndex := 226, descriptorIndex := 227, attributes := #[] }, { accessFlags := 26, nameIndex := 229, descriptorIndex := 227, attributes := #[] }, { accessFlags := 26, nameIndex := 231, descriptorIndex := 232, attributes := #[] }, { accessFlags := 26, nameIndex := 234, descriptorIndex := 232, attributes := #[] }, { accessFlags := 18, nameIndex := 67, descriptorIndex := 68, attributes := #[] }, { accessFlags := 4122, nameIndex := 48, descriptorIndex := 49, attributes := #[] }])
  fields := #[{ name := "INT16", type := (.object "com/example/kinfold/kinfold/ValueEncoding"), accessFlags := 16409, slot := 0, constantValue := 0 }, { name := "INT32", type := (.object "com/example/kinfold/kinfold/ValueEncoding"), accessFlags := 16409, slot := 1, constantValue := 0 }, { name := "INT64", type := (.object "com/example/kinfold/kinfold/ValueEncoding"), accessFlags := 16409, slot := 2, constantValue := 0 }, { name := "FLOAT32", type := (.object "com/example/kinfold/kinfold/ValueEncoding"), accessFlags := 16409, slot := 3, constantValue := 0 }, { name := "FLOAT64", type := (.object "com/example/kinfold/kinfold/ValueEncoding"), accessFlags := 16409, slot := 4, constantValue := 0 }, { name := "DECIMAL", type := (.object "com/example/kinfold/kinfold/ValueEncoding"), accessFlags := 16409, slot := 5, constantValue := 0 }, { name := "BOOLEAN", type := (.object "com/example/kinfold/kinfold/ValueEncoding"), accessFlags := 16409, slot := 6, constantValue := 0 }, { name := "UTF8", type := (.object "com/example/kinfold/kinfold/ValueEncoding"), accessFlags := 16409, slot := 7, constantValue := 0 }, { name := "DATE", type := (.object "com/example/kinfold/kinfold/ValueEncoding"), accessFlags := 16409, slot := 8, constantValue := 0 }, { name := "TIME", type := (.object "com/example/kinfold/kinfold/ValueEncoding"), accessFlags := 16409, slot := 9, constantValue := 0 }, { name := "TIMESTAMP", type := (.object "com/example/kinfold/kinfold/ValueEncoding"), accessFlags := 16409, slot := 10, constantValue := 0 }, { name := "INSTANT", type := (.object "com/example/kinfold/kinfold/ValueEncoding"), accessFlags := 16409, slot := 11, constantValue := 0 }, { name := "BYTES", type := (.object "com/example/kinfold/kinfold/ValueEncoding"), accessFlags := 16409, slot := 12, constantValue := 0 }, { name := "UUID", type := (.object "com/example/kinfold/kinfold/ValueEncoding"), accessFlags := 16409, slot := 13, constantValue := 0 }, { name := "MICROS_PER_SECOND", type := .long, accessFlags := 26, slot := 14, constantValue := 0 }, { name := "MICROS_PER_DAY", type := .long, accessFlags := 26, slot := 15, constantValue := 0 }, { name := "NANOS_PER_MICRO", type := .int, accessFlags := 26, slot := 16, constantValue := 0 }, { name := "UUID_BYTES", type := .int, accessFlags := 26, slot := 17, constantValue := 0 }, { name := "TRUE", type := .byte, accessFlags := 26, slot := 18, constantValue := 0 }, { name := "FALSE", type := .byte, accessFlags := 26, slot := 19, constantValue := 0 }, { name := "fixedWidth", type := .boolean, accessFlags := 18, slot := 3, constantValue := 0 }, { name := "$VALUES", type := (.array (.object "com/example/kinfold/kinfold/ValueEncoding")), accessFlags := 4122, slot := 20, constantValue := 0 }]
  methods := #[k10m0, k10m1]
  instanceTypes := #[(.object "java/lang/String"), .int, .int, .boolean]
  staticTypes := #[(.object "com/example/kinfold/kinfold/ValueEncoding"), (.object "com/example/kinfold/kinfold/ValueEncoding"), (.object "com/example/kinfold/kinfold/ValueEncoding"), (.object "com/example/kinfold/kinfold/ValueEncoding"), (.object "com/example/kinfold/kinfold/ValueEncoding"), (.object "com/example/kinfold/kinfold/ValueEncoding"), (.object "com/example/kinfold/kinfold/ValueEncoding"), (.object "com/example/kinfold/kinfold/ValueEncoding"), (.object "com/example/kinfold/kinfold/ValueEncoding"), (.object "com/example/kinfold/kinfold/ValueEncoding"), (.object "com/example/kinfold/kinfold/ValueEncoding"), (.object "com/example/kinfold/kinfold/ValueEncoding"), (.object "com/example/kinfold/kinfold/ValueEncoding"), (.object "com/example/kinfold/kinfold/ValueEncoding"), .long, .long, .int, .int, .byte, .byte, (.array (.object "com/example/kinfold/kinfold/ValueEncoding"))]
  resolved := Array.replicate 284 none
  statics := some 1 }

def pool11 : Array CpInfo := pool [(1, .fieldref 2 3), (0, .class_ 4), (0, .nameAndType 5 6), (0, u "java/util/Optional"), (0, u "EMPTY"), (0, u "Ljava/util/Optional;"), (0, .methodref 8 9), (0, .class_ 10), (0, .nameAndType 11 12), (0, u "java/lang/Object"), (0, u "<init>"), (0, u "()V"), (0, .fieldref 2 14), (0, .nameAndType 15 16), (0, u "value"), (0, u "Ljava/lang/Object;"), (5, u "(Ljava/lang/Object;)Ljava/lang/Object;"), (0, .methodref 2 24), (0, .nameAndType 11 25), (0, u "(Ljava/lang/Object;)V"), (38, u "ofNullable"), (0, u "(Ljava/lang/Object;)Ljava/util/Optional;"), (99, u "orElse")] 21

def k11c0 : Code := { maxStack := 2, maxLocals := 2, code := jdk_32_method_2_code, exceptionTable := #[], attributes := #[] }
def k11m0 : Method := { name := "<init>", desc := "(Ljava/lang/Object;)V", sig := { parameters := [(.object "java/lang/Object")], returnType := none }, accessFlags := 2, code := some k11c0 }
def k11c1 : Code := { maxStack := 3, maxLocals := 1, code := jdk_32_method_4_code, exceptionTable := #[], attributes := #[] }
def k11m1 : Method := { name := "ofNullable", desc := "(Ljava/lang/Object;)Ljava/util/Optional;", sig := { parameters := [(.object "java/lang/Object")], returnType := some (.object "java/util/Optional") }, accessFlags := 9, code := some k11c1 }
def k11c2 : Code := { maxStack := 1, maxLocals := 2, code := jdk_32_method_15_code, exceptionTable := #[], attributes := #[] }
def k11m2 : Method := { name := "orElse", desc := "(Ljava/lang/Object;)Ljava/lang/Object;", sig := { parameters := [(.object "java/lang/Object")], returnType := some (.object "java/lang/Object") }, accessFlags := 1, code := some k11c2 }
/-- java/util/Optional -/
def k11 : Class := { plain "java/util/Optional" (some 0) with
  accessFlags := 49
  interfaces := #[]
  cf := some (fileOf pool11 2 #[] #[{ accessFlags := 2, nameIndex := 11, descriptorIndex := 25, attributes := #[] }, { accessFlags := 9, nameIndex := 64, descriptorIndex := 65, attributes := #[] }, { accessFlags := 1, nameIndex := 165, descriptorIndex := 22, attributes := #[] }] 49 8 #[] #[{ accessFlags := 26, nameIndex := 5, descriptorIndex := 6, attributes := #[] }, { accessFlags := 18, nameIndex := 15, descriptorIndex := 16, attributes := #[] }])
  fields := #[{ name := "EMPTY", type := (.object "java/util/Optional"), accessFlags := 26, slot := 0, constantValue := 0 }, { name := "value", type := (.object "java/lang/Object"), accessFlags := 18, slot := 0, constantValue := 0 }]
  methods := #[k11m0, k11m1, k11m2]
  instanceTypes := #[(.object "java/lang/Object")]
  staticTypes := #[(.object "java/util/Optional")]
  resolved := Array.replicate 187 none
  statics := some 2 }

def pool12 : Array CpInfo := pool [(6, .class_ 8), (1, u "java/lang/Object"), (0, u "<init>"), (0, u "()V"), (1, .class_ 14), (1, u "java/lang/StringUTF16"), (31, u "$assertionsDisabled"), (0, u "Z"), (13, u "HI_BYTE_SHIFT"), (0, u "I"), (2, u "LO_BYTE_SHIFT"), (49, .methodref 12 116), (0, .nameAndType 117 118), (0, u "compress"), (0, u "([CI[BII)I"), (3, u "([CII)[B"), (138, u "coderFromArrayLen"), (0, u "([BI)B"), (106, .class_ 371), (1, u "java/lang/StringUTF16$LinesSpliterator"), (58, u "MAX_LENGTH"), (196, .class_ 628), (0, u "java/lang/StringUTF16$CodePointsSpliterator"), (0, .class_ 630), (0, u "java/lang/StringUTF16$CharsSpliterator")] 4

def k12m0 : Method := { name := "<init>", desc := "()V", sig := { parameters := [], returnType := none }, accessFlags := 0, code := none }
def k12c1 : Code := { maxStack := 2, maxLocals := 2, code := jdk_52_method_15_code, exceptionTable := #[], attributes := #[] }
def k12m1 : Method := { name := "coderFromArrayLen", desc := "([BI)B", sig := { parameters := [(.array .byte), .int], returnType := some .byte }, accessFlags := 8, code := some k12c1 }
def k12c2 : Code := { maxStack := 5, maxLocals := 6, code := jdk_52_method_16_code, exceptionTable := #[], attributes := #[] }
def k12m2 : Method := { name := "compress", desc := "([CII)[B", sig := { parameters := [(.array .char), .int, .int], returnType := some (.array .byte) }, accessFlags := 9, code := some k12c2 }
def k12c3 : Code := { maxStack := 3, maxLocals := 7, code := jdk_52_method_21_code, exceptionTable := #[], attributes := #[] }
def k12m3 : Method := { name := "compress", desc := "([CI[BII)I", sig := { parameters := [(.array .char), .int, (.array .byte), .int, .int], returnType := some .int }, accessFlags := 9, code := some k12c3 }
/-- java/lang/StringUTF16 -/
def k12 : Class := { plain "java/lang/StringUTF16" (some 0) with
  accessFlags := 48
  interfaces := #[]
  cf := some (fileOf pool12 12 #[.nestMembers #[627, 629, 369]] #[{ accessFlags := 0, nameIndex := 9, descriptorIndex := 10, attributes := #[] }, { accessFlags := 8, nameIndex := 261, descriptorIndex := 262, attributes := #[] }, { accessFlags := 9, nameIndex := 117, descriptorIndex := 122, attributes := #[] }, { accessFlags := 9, nameIndex := 117, descriptorIndex := 118, attributes := #[] }] 48 6 #[] #[{ accessFlags := 26, nameIndex := 61, descriptorIndex := 62, attributes := #[] }, { accessFlags := 26, nameIndex := 65, descriptorIndex := 62, attributes := #[] }, { accessFlags := 24, nameIndex := 430, descriptorIndex := 62, attributes := #[] }, { accessFlags := 4120, nameIndex := 46, descriptorIndex := 47, attributes := #[] }])
  fields := #[{ name := "HI_BYTE_SHIFT", type := .int, accessFlags := 26, slot := 0, constantValue := 0 }, { name := "LO_BYTE_SHIFT", type := .int, accessFlags := 26, slot := 1, constantValue := 0 }, { name := "MAX_LENGTH", type := .int, accessFlags := 24, slot := 2, constantValue := 0 }, { name := "$assertionsDisabled", type := .boolean, accessFlags := 4120, slot := 3, constantValue := 0 }]
  methods := #[k12m0, k12m1, k12m2, k12m3]
  instanceTypes := #[]
  staticTypes := #[.int, .int, .int, .boolean]
  resolved := Array.replicate 635 none
  statics := none }

def pool13 : Array CpInfo := pool [(2, .class_ 4), (1, u "java/lang/Object"), (0, u "<init>"), (0, u "()V"), (17, .class_ 26), (1, u "jdk/internal/util/Preconditions"), (28, .class_ 56), (0, u "jdk/internal/util/Preconditions$4"), (57, .class_ 115), (0, u "jdk/internal/util/Preconditions$1"), (7, u "SIOOBE_FORMATTER"), (0, u "Ljava/util/function/BiFunction;"), (0, .class_ 126), (0, u "jdk/internal/util/Preconditions$2"), (3, u "AIOOBE_FORMATTER"), (0, .class_ 132), (0, u "jdk/internal/util/Preconditions$3"), (3, u "IOOBE_FORMATTER")] 57

def k13m0 : Method := { name := "<init>", desc := "()V", sig := { parameters := [], returnType := none }, accessFlags := 1, code := none }
/-- jdk/internal/util/Preconditions -/
def k13 : Class := { plain "jdk/internal/util/Preconditions" (some 0) with
  accessFlags := 33
  interfaces := #[]
  cf := some (fileOf pool13 24 #[.nestMembers #[55, 131, 125, 114]] #[{ accessFlags := 1, nameIndex := 5, descriptorIndex := 6, attributes := #[] }] 33 2 #[] #[{ accessFlags := 25, nameIndex := 123, descriptorIndex := 124, attributes := #[] }, { accessFlags := 25, nameIndex := 130, descriptorIndex := 124, attributes := #[] }, { accessFlags := 25, nameIndex := 136, descriptorIndex := 124, attributes := #[] }])
  fields := #[{ name := "SIOOBE_FORMATTER", type := (.object "java/util/function/BiFunction"), accessFlags := 25, slot := 0, constantValue := 0 }, { name := "AIOOBE_FORMATTER", type := (.object "java/util/function/BiFunction"), accessFlags := 25, slot := 1, constantValue := 0 }, { name := "IOOBE_FORMATTER", type := (.object "java/util/function/BiFunction"), accessFlags := 25, slot := 2, constantValue := 0 }]
  methods := #[k13m0]
  instanceTypes := #[]
  staticTypes := #[(.object "java/util/function/BiFunction"), (.object "java/util/function/BiFunction"), (.object "java/util/function/BiFunction")]
  resolved := Array.replicate 194 none
  statics := some 3 }

def pool14 : Array CpInfo := pool [(9, u "<init>"), (6, .class_ 18), (1, u "java/lang/Object"), (0, u "()V"), (1, .class_ 23), (1, u "jdk/internal/util/ArraysSupport"), (0, u "LOG2_ARRAY_LONG_INDEX_SCALE"), (0, u "I"), (2, u "U"), (0, u "Ljdk/internal/misc/Unsafe;"), (8, u "BIG_ENDIAN"), (0, u "Z"), (8, u "LOG2_BYTE_BIT_SIZE"), (4, u "LOG2_ARRAY_INT_INDEX_SCALE"), (54, u "JLA"), (0, u "Ljdk/internal/access/JavaLangAccess;"), (11, u "LOG2_ARRAY_BOOLEAN_INDEX_SCALE"), (9, u "LOG2_ARRAY_BYTE_INDEX_SCALE"), (5, u "LOG2_ARRAY_CHAR_INDEX_SCALE"), (5, u "LOG2_ARRAY_SHORT_INDEX_SCALE"), (18, u "LOG2_ARRAY_FLOAT_INDEX_SCALE"), (24, u "LOG2_ARRAY_DOUBLE_INDEX_SCALE"), (89, u "T_BOOLEAN"), (2, u "T_CHAR"), (1, u "T_FLOAT"), (1, u "T_DOUBLE"), (1, u "T_BYTE"), (1, u "T_SHORT"), (1, u "T_INT"), (1, u "T_LONG"), (1, u "SOFT_MAX_ARRAY_LENGTH")] 83

def k14m0 : Method := { name := "<init>", desc := "()V", sig := { parameters := [], returnType := none }, accessFlags := 2, code := none }
/-- jdk/internal/util/ArraysSupport -/
def k14 : Class := { plain "jdk/internal/util/ArraysSupport" (some 0) with
  accessFlags := 33
  interfaces := #[]
  cf := some (fileOf pool14 21 #[] #[{ accessFlags := 2, nameIndex := 9, descriptorIndex := 19, attributes := #[] }] 33 16 #[] #[{ accessFlags := 24, nameIndex := 28, descriptorIndex := 29, attributes := #[] }, { accessFlags := 26, nameIndex := 38, descriptorIndex := 39, attributes := #[] }, { accessFlags := 25, nameIndex := 121, descriptorIndex := 25, attributes := #[] }, { accessFlags := 25, nameIndex := 131, descriptorIndex := 25, attributes := #[] }, { accessFlags := 25, nameIndex := 137, descriptorIndex := 25, attributes := #[] }, { accessFlags := 25, nameIndex := 143, descriptorIndex := 25, attributes := #[] }, { accessFlags := 25, nameIndex := 53, descriptorIndex := 25, attributes := #[] }, { accessFlags := 25, nameIndex := 24, descriptorIndex := 25, attributes := #[] }, { accessFlags := 25, nameIndex := 162, descriptorIndex := 25, attributes := #[] }, { accessFlags := 25, nameIndex := 187, descriptorIndex := 25, attributes := #[] }, { accessFlags := 26, nameIndex := 48, descriptorIndex := 25, attributes := #[] }, { accessFlags := 25, nameIndex := 277, descriptorIndex := 25, attributes := #[] }, { accessFlags := 25, nameIndex := 280, descriptorIndex := 25, attributes := #[] }, { accessFlags := 25, nameIndex := 282, descriptorIndex := 25, attributes := #[] }, { accessFlags := 25, nameIndex := 284, descriptorIndex := 25, attributes := #[] }, { accessFlags := 25, nameIndex := 286, descriptorIndex := 25, attributes := #[] }, { accessFlags := 25, nameIndex := 288, descriptorIndex := 25, attributes := #[] }, { accessFlags := 25, nameIndex := 290, descriptorIndex := 25, attributes := #[] }, { accessFlags := 25, nameIndex := 292, descriptorIndex := 25, attributes := #[] }, { accessFlags := 26, nameIndex := 108, descriptorIndex := 109, attributes := #[] }, { accessFlags := 25, nameIndex := 294, descriptorIndex := 25, attributes := #[] }])
  fields := #[{ name := "U", type := (.object "jdk/internal/misc/Unsafe"), accessFlags := 24, slot := 0, constantValue := 0 }, { name := "BIG_ENDIAN", type := .boolean, accessFlags := 26, slot := 1, constantValue := 0 }, { name := "LOG2_ARRAY_BOOLEAN_INDEX_SCALE", type := .int, accessFlags := 25, slot := 2, constantValue := 0 }, { name := "LOG2_ARRAY_BYTE_INDEX_SCALE", type := .int, accessFlags := 25, slot := 3, constantValue := 0 }, { name := "LOG2_ARRAY_CHAR_INDEX_SCALE", type := .int, accessFlags := 25, slot := 4, constantValue := 0 }, { name := "LOG2_ARRAY_SHORT_INDEX_SCALE", type := .int, accessFlags := 25, slot := 5, constantValue := 0 }, { name := "LOG2_ARRAY_INT_INDEX_SCALE", type := .int, accessFlags := 25, slot := 6, constantValue := 0 }, { name := "LOG2_ARRAY_LONG_INDEX_SCALE", type := .int, accessFlags := 25, slot := 7, constantValue := 0 }, { name := "LOG2_ARRAY_FLOAT_INDEX_SCALE", type := .int, accessFlags := 25, slot := 8, constantValue := 0 }, { name := "LOG2_ARRAY_DOUBLE_INDEX_SCALE", type := .int, accessFlags := 25, slot := 9, constantValue := 0 }, { name := "LOG2_BYTE_BIT_SIZE", type := .int, accessFlags := 26, slot := 10, constantValue := 0 }, { name := "T_BOOLEAN", type := .int, accessFlags := 25, slot := 11, constantValue := 0 }, { name := "T_CHAR", type := .int, accessFlags := 25, slot := 12, constantValue := 0 }, { name := "T_FLOAT", type := .int, accessFlags := 25, slot := 13, constantValue := 0 }, { name := "T_DOUBLE", type := .int, accessFlags := 25, slot := 14, constantValue := 0 }, { name := "T_BYTE", type := .int, accessFlags := 25, slot := 15, constantValue := 0 }, { name := "T_SHORT", type := .int, accessFlags := 25, slot := 16, constantValue := 0 }, { name := "T_INT", type := .int, accessFlags := 25, slot := 17, constantValue := 0 }, { name := "T_LONG", type := .int, accessFlags := 25, slot := 18, constantValue := 0 }, { name := "JLA", type := (.object "jdk/internal/access/JavaLangAccess"), accessFlags := 26, slot := 19, constantValue := 0 }, { name := "SOFT_MAX_ARRAY_LENGTH", type := .int, accessFlags := 25, slot := 20, constantValue := 0 }]
  methods := #[k14m0]
  instanceTypes := #[]
  staticTypes := #[(.object "jdk/internal/misc/Unsafe"), .boolean, .int, .int, .int, .int, .int, .int, .int, .int, .int, .int, .int, .int, .int, .int, .int, .int, .int, (.object "jdk/internal/access/JavaLangAccess"), .int]
  resolved := Array.replicate 378 none
  statics := none }

def pool15 : Array CpInfo := pool [(2, .class_ 4), (1, u "com/example/kinfold/kinfold/ValueEncoding"), (28, .class_ 34), (0, u "com/example/kinfold/kinfold/ValueEncoding$1")] 16

/-- com/example/kinfold/kinfold/ValueEncoding$1 -/
def k15 : Class := { plain "com/example/kinfold/kinfold/ValueEncoding$1" (some 10) with
  accessFlags := 16432
  interfaces := #[]
  cf := some (fileOf pool15 33 #[.nestHost 2] #[] 16432 2 #[] #[])
  fields := #[]
  methods := #[]
  instanceTypes := #[(.object "java/lang/String"), .int, .int, .boolean]
  staticTypes := #[]
  resolved := Array.replicate 51 none
  statics := none }

def pool16 : Array CpInfo := pool [(2, .class_ 4), (1, u "com/example/kinfold/kinfold/ValueEncoding"), (27, .class_ 33), (0, u "com/example/kinfold/kinfold/ValueEncoding$2")] 16

/-- com/example/kinfold/kinfold/ValueEncoding$2 -/
def k16 : Class := { plain "com/example/kinfold/kinfold/ValueEncoding$2" (some 10) with
  accessFlags := 16432
  interfaces := #[]
  cf := some (fileOf pool16 32 #[.nestHost 2] #[] 16432 2 #[] #[])
  fields := #[]
  methods := #[]
  instanceTypes := #[(.object "java/lang/String"), .int, .int, .boolean]
  staticTypes := #[]
  resolved := Array.replicate 50 none
  statics := none }

def pool17 : Array CpInfo := pool [(2, .class_ 4), (1, u "com/example/kinfold/kinfold/ValueEncoding"), (28, .class_ 34), (0, u "com/example/kinfold/kinfold/ValueEncoding$3")] 16

/-- com/example/kinfold/kinfold/ValueEncoding$3 -/
def k17 : Class := { plain "com/example/kinfold/kinfold/ValueEncoding$3" (some 10) with
  accessFlags := 16432
  interfaces := #[]
  cf := some (fileOf pool17 33 #[.nestHost 2] #[] 16432 2 #[] #[])
  fields := #[]
  methods := #[]
  instanceTypes := #[(.object "java/lang/String"), .int, .int, .boolean]
  staticTypes := #[]
  resolved := Array.replicate 51 none
  statics := none }

def pool18 : Array CpInfo := pool [(2, .class_ 4), (1, u "com/example/kinfold/kinfold/ValueEncoding"), (31, .class_ 37), (0, u "com/example/kinfold/kinfold/ValueEncoding$4")] 16

/-- com/example/kinfold/kinfold/ValueEncoding$4 -/
def k18 : Class := { plain "com/example/kinfold/kinfold/ValueEncoding$4" (some 10) with
  accessFlags := 16432
  interfaces := #[]
  cf := some (fileOf pool18 36 #[.nestHost 2] #[] 16432 2 #[] #[])
  fields := #[]
  methods := #[]
  instanceTypes := #[(.object "java/lang/String"), .int, .int, .boolean]
  staticTypes := #[]
  resolved := Array.replicate 54 none
  statics := none }

def pool19 : Array CpInfo := pool [(2, .class_ 4), (1, u "com/example/kinfold/kinfold/ValueEncoding"), (32, .class_ 38), (0, u "com/example/kinfold/kinfold/ValueEncoding$5")] 16

/-- com/example/kinfold/kinfold/ValueEncoding$5 -/
def k19 : Class := { plain "com/example/kinfold/kinfold/ValueEncoding$5" (some 10) with
  accessFlags := 16432
  interfaces := #[]
  cf := some (fileOf pool19 37 #[.nestHost 2] #[] 16432 2 #[] #[])
  fields := #[]
  methods := #[]
  instanceTypes := #[(.object "java/lang/String"), .int, .int, .boolean]
  staticTypes := #[]
  resolved := Array.replicate 55 none
  statics := none }

def pool20 : Array CpInfo := pool [(2, .class_ 4), (1, u "com/example/kinfold/kinfold/ValueEncoding"), (54, .class_ 60), (0, u "com/example/kinfold/kinfold/ValueEncoding$6")] 31

/-- com/example/kinfold/kinfold/ValueEncoding$6 -/
def k20 : Class := { plain "com/example/kinfold/kinfold/ValueEncoding$6" (some 10) with
  accessFlags := 16432
  interfaces := #[]
  cf := some (fileOf pool20 59 #[.nestHost 2] #[] 16432 2 #[] #[])
  fields := #[]
  methods := #[]
  instanceTypes := #[(.object "java/lang/String"), .int, .int, .boolean]
  staticTypes := #[]
  resolved := Array.replicate 92 none
  statics := none }

def pool21 : Array CpInfo := pool [(1, .class_ 2), (0, u "com/example/kinfold/kinfold/ValueEncoding"), (14, .class_ 18), (0, u "com/example/kinfold/kinfold/ValueEncoding$7")] 16

/-- com/example/kinfold/kinfold/ValueEncoding$7 -/
def k21 : Class := { plain "com/example/kinfold/kinfold/ValueEncoding$7" (some 10) with
  accessFlags := 16432
  interfaces := #[]
  cf := some (fileOf pool21 17 #[.nestHost 1] #[] 16432 1 #[] #[])
  fields := #[]
  methods := #[]
  instanceTypes := #[(.object "java/lang/String"), .int, .int, .boolean]
  staticTypes := #[]
  resolved := Array.replicate 35 none
  statics := none }

def pool22 : Array CpInfo := pool [(2, .class_ 4), (1, u "com/example/kinfold/kinfold/ValueEncoding"), (20, .class_ 26), (0, u "com/example/kinfold/kinfold/ValueEncoding$8")] 16

/-- com/example/kinfold/kinfold/ValueEncoding$8 -/
def k22 : Class := { plain "com/example/kinfold/kinfold/ValueEncoding$8" (some 10) with
  accessFlags := 16432
  interfaces := #[]
  cf := some (fileOf pool22 25 #[.nestHost 2] #[] 16432 2 #[] #[])
  fields := #[]
  methods := #[]
  instanceTypes := #[(.object "java/lang/String"), .int, .int, .boolean]
  staticTypes := #[]
  resolved := Array.replicate 43 none
  statics := none }

def pool23 : Array CpInfo := pool [(2, .class_ 4), (1, u "com/example/kinfold/kinfold/ValueEncoding"), (42, .class_ 48), (0, u "com/example/kinfold/kinfold/ValueEncoding$9")] 17

/-- com/example/kinfold/kinfold/ValueEncoding$9 -/
def k23 : Class := { plain "com/example/kinfold/kinfold/ValueEncoding$9" (some 10) with
  accessFlags := 16432
  interfaces := #[]
  cf := some (fileOf pool23 47 #[.nestHost 2] #[] 16432 2 #[] #[])
  fields := #[]
  methods := #[]
  instanceTypes := #[(.object "java/lang/String"), .int, .int, .boolean]
  staticTypes := #[]
  resolved := Array.replicate 66 none
  statics := none }

def pool24 : Array CpInfo := pool [(1, .class_ 2), (0, u "com/example/kinfold/kinfold/ValueEncoding"), (44, .class_ 48), (0, u "com/example/kinfold/kinfold/ValueEncoding$10")] 14

/-- com/example/kinfold/kinfold/ValueEncoding$10 -/
def k24 : Class := { plain "com/example/kinfold/kinfold/ValueEncoding$10" (some 10) with
  accessFlags := 16432
  interfaces := #[]
  cf := some (fileOf pool24 47 #[.nestHost 1] #[] 16432 1 #[] #[])
  fields := #[]
  methods := #[]
  instanceTypes := #[(.object "java/lang/String"), .int, .int, .boolean]
  staticTypes := #[]
  resolved := Array.replicate 63 none
  statics := none }

def pool25 : Array CpInfo := pool [(2, .class_ 4), (1, u "com/example/kinfold/kinfold/ValueEncoding"), (35, .class_ 41), (0, u "com/example/kinfold/kinfold/ValueEncoding$11")] 17

/-- com/example/kinfold/kinfold/ValueEncoding$11 -/
def k25 : Class := { plain "com/example/kinfold/kinfold/ValueEncoding$11" (some 10) with
  accessFlags := 16432
  interfaces := #[]
  cf := some (fileOf pool25 40 #[.nestHost 2] #[] 16432 2 #[] #[])
  fields := #[]
  methods := #[]
  instanceTypes := #[(.object "java/lang/String"), .int, .int, .boolean]
  staticTypes := #[]
  resolved := Array.replicate 59 none
  statics := none }

def pool26 : Array CpInfo := pool [(2, .class_ 4), (1, u "com/example/kinfold/kinfold/ValueEncoding"), (29, .class_ 35), (0, u "com/example/kinfold/kinfold/ValueEncoding$12")] 17

/-- com/example/kinfold/kinfold/ValueEncoding$12 -/
def k26 : Class := { plain "com/example/kinfold/kinfold/ValueEncoding$12" (some 10) with
  accessFlags := 16432
  interfaces := #[]
  cf := some (fileOf pool26 34 #[.nestHost 2] #[] 16432 2 #[] #[])
  fields := #[]
  methods := #[]
  instanceTypes := #[(.object "java/lang/String"), .int, .int, .boolean]
  staticTypes := #[]
  resolved := Array.replicate 53 none
  statics := none }

def pool27 : Array CpInfo := pool [(2, .class_ 4), (1, u "com/example/kinfold/kinfold/ValueEncoding"), (8, .class_ 14), (0, u "com/example/kinfold/kinfold/ValueEncoding$13")] 13

/-- com/example/kinfold/kinfold/ValueEncoding$13 -/
def k27 : Class := { plain "com/example/kinfold/kinfold/ValueEncoding$13" (some 10) with
  accessFlags := 16432
  interfaces := #[]
  cf := some (fileOf pool27 13 #[.nestHost 2] #[] 16432 2 #[] #[])
  fields := #[]
  methods := #[]
  instanceTypes := #[(.object "java/lang/String"), .int, .int, .boolean]
  staticTypes := #[]
  resolved := Array.replicate 28 none
  statics := none }

def pool28 : Array CpInfo := pool [(1, .class_ 2), (0, u "com/example/kinfold/kinfold/ValueEncoding"), (33, .class_ 37), (0, u "com/example/kinfold/kinfold/ValueEncoding$14")] 14

/-- com/example/kinfold/kinfold/ValueEncoding$14 -/
def k28 : Class := { plain "com/example/kinfold/kinfold/ValueEncoding$14" (some 10) with
  accessFlags := 16432
  interfaces := #[]
  cf := some (fileOf pool28 36 #[.nestHost 1] #[] 16432 1 #[] #[])
  fields := #[]
  methods := #[]
  instanceTypes := #[(.object "java/lang/String"), .int, .int, .boolean]
  staticTypes := #[]
  resolved := Array.replicate 52 none
  statics := none }

def pool29 : Array CpInfo := pool [(1, u "java/lang/Cloneable"), (0, .class_ 1), (0, u "java/lang/Object"), (0, .class_ 3)] 3

/-- java/lang/Cloneable -/
def k29 : Class := { plain "java/lang/Cloneable" (some 0) with
  accessFlags := 1537
  interfaces := #[]
  cf := some (fileOf pool29 2 #[] #[] 1537 4 #[] #[])
  fields := #[]
  methods := #[]
  instanceTypes := #[]
  staticTypes := #[]
  resolved := Array.replicate 8 none
  statics := none }

/-- the primitive byte -/
def k30 : Class := { plain "byte" none with kind := .primitive 'B', accessFlags := 0x411 }
/-- [B -/
def k31 : Class := { plain "[B" (some 0) with kind := .array 30 .byte, interfaces := #[29, 2], accessFlags := 1041 }

/-- the primitive char -/
def k32 : Class := { plain "char" none with kind := .primitive 'C', accessFlags := 0x411 }
/-- [C -/
def k33 : Class := { plain "[C" (some 0) with kind := .array 32 .char, interfaces := #[29, 2], accessFlags := 1041 }

/-- the primitive int -/
def k34 : Class := { plain "int" none with kind := .primitive 'I', accessFlags := 0x411 }
/-- [I -/
def k35 : Class := { plain "[I" (some 0) with kind := .array 34 .int, interfaces := #[29, 2], accessFlags := 1041 }

def heap : Heap := #[{ cls := 7, slots := #[.long 0, .int 1, .null, .int 0, .null, .int 0, .int 0], vm := .statics 7 },
  { cls := 10, slots := #[.ref 4, .ref 5, .ref 6, .ref 7, .ref 8, .ref 9, .ref 10, .ref 11, .ref 12, .ref 13, .ref 14, .ref 15, .ref 16, .ref 17, .long 0, .long 0, .int 0, .int 0, .int 0, .int 0, .null], vm := .statics 10 },
  { cls := 11, slots := #[.ref 18], vm := .statics 11 },
  { cls := 13, slots := #[.null, .null, .null], vm := .statics 13 },
  { cls := 15, slots := #[.null, .int 0, .int 0, .int 0], vm := .none },
  { cls := 16, slots := #[.null, .int 1, .int 0, .int 0], vm := .none },
  { cls := 17, slots := #[.null, .int 2, .int 0, .int 0], vm := .none },
  { cls := 18, slots := #[.null, .int 3, .int 0, .int 0], vm := .none },
  { cls := 19, slots := #[.null, .int 4, .int 0, .int 0], vm := .none },
  { cls := 20, slots := #[.null, .int 5, .int 0, .int 0], vm := .none },
  { cls := 21, slots := #[.null, .int 6, .int 0, .int 0], vm := .none },
  { cls := 22, slots := #[.null, .int 7, .int 0, .int 0], vm := .none },
  { cls := 23, slots := #[.null, .int 8, .int 0, .int 0], vm := .none },
  { cls := 24, slots := #[.null, .int 9, .int 0, .int 0], vm := .none },
  { cls := 25, slots := #[.null, .int 10, .int 0, .int 0], vm := .none },
  { cls := 26, slots := #[.null, .int 11, .int 0, .int 0], vm := .none },
  { cls := 27, slots := #[.null, .int 12, .int 0, .int 0], vm := .none },
  { cls := 28, slots := #[.null, .int 13, .int 0, .int 0], vm := .none },
  { cls := 11, slots := #[.null], vm := .none }]
def classes : Array Class := #[k0, k1, k2, k3, k4, k5, k6, k7, k8, k9, k10, k11, k12, k13, k14, k15, k16, k17, k18, k19, k20, k21, k22, k23, k24, k25, k26, k27, k28, k29, k30, k31, k32, k33, k34, k35]
def interned : List (Array UInt16 × Addr) := []
def slotsUsed : Nat := 89
def theMethod : MethodId := ⟨1, 1⟩
def args0 : Array Value := #[.int 5, .int 0, .int 20, .long 5]
def aboutOver (below : List Frame) : State where
  vm := { classes := classes, interned := interned.toArray }
  heap := heap
  slotsUsed := slotsUsed
  threads := #[{ frames := .invoking theMethod args0 :: below }]
def below0 : List Frame := [.native { method := ⟨0, 0⟩, args := #[] }]
def about1 : State := aboutOver below0
def p0 : Program := .bare "" "" ""
def e0 : Env := launch0.env 0 0 0
theorem w_frames : about1.frames = Frame.invoking theMethod args0 :: below0 := rfl
set_option maxRecDepth 65536 in
theorem w_args : argsFit about1.vm theMethod args0 = true := by decide +kernel
set_option maxRecDepth 65536 in
theorem w_heap : heapFits about1 = true := by decide +kernel
set_option maxRecDepth 65536 in
theorem w_runnable : about1.curStatus? = some .runnable := by decide +kernel
set_option maxRecDepth 65536 in
theorem w_alone : about1.alone = true := by decide +kernel
set_option maxRecDepth 65536 in
theorem w_named : about1.methodNamed? x = some theMethod := by decide +kernel
set_option maxRecDepth 65536 in
theorem w_hears : about1.hears theMethod below0 = true := by decide +kernel
set_option maxRecDepth 65536 in
theorem w_ripe : about1.ripe theMethod args0 below0 = true := by decide +kernel
theorem w_running : about1.status = .running := rfl
set_option maxRecDepth 65536 in
theorem w_room : about1.hasRoom e0.platform room_1 = true :=
  launch0.hasRoom_least _ room_1 (by decide +kernel) (by decide +kernel) (by decide +kernel) (by decide +kernel) (by decide +kernel) (by decide +kernel)
theorem allAtoms_all (ts : List Jvm.Cond) (a : Array Jvm.Value) (st : Jvm.State) : (allAtoms ts).before a st = ts.all (fun c => c.before a st) := by
  induction ts with
  | nil => rfl
  | cons c t ih =>
    show (Jvm.Cond.and c (allAtoms t)).before a st = _
    rw [Jvm.Cond.before_and, ih, List.all_cons]
def words1 : List Jvm.Cond := Jvm.Cond.code x code maxLocals ret :: tables_1
/-- a 'code' word, met by the world's own term for the bytes: nothing is compared byte by byte -/
theorem code_word {y : MethodName} {bytes : ByteArray} {mx : Nat} {rt : Option FieldType} {a : Array Value} {s : State} {m : MethodId} {meth : Method} {c : Code} (h1 : s.methodNamed? y = some m) (h2 : s.vm.method? m = some meth) (h3 : meth.code = some c) (h4 : c.code = bytes)
    (h5 : (c.maxLocals == mx && c.exceptionTable.isEmpty && decide (c.maxStack ≤ mostOperands) && decide (meth.sig.returnType = rt) && !meth.locks && decide (parseMethodDescriptor y.desc = some meth.sig)) = true) : (Jvm.Cond.code y bytes mx rt).before a s = true := by
  simp only [Bool.and_eq_true, beq_iff_eq, Bool.not_eq_true', decide_eq_true_eq] at h5
  obtain ⟨⟨⟨⟨⟨g1, g2⟩, g3⟩, g4⟩, g5⟩, g6⟩ := h5
  simp [Cond.before, Cond.holds, Cond.value, h1, h2, h3, h4, g1, g2, g3, g4, g5, g6]
def isCode : Jvm.Cond → Bool
  | .code _ _ _ _ => true
  | _ => false
theorem all_split {L : List Jvm.Cond} {P : Jvm.Cond → Bool} (h1 : L.all (fun c => isCode c || P c) = true) (h2 : ∀ c ∈ L.filter isCode, P c = true) : L.all P = true := by
  refine List.all_eq_true.mpr fun c hc => ?_
  have h := List.all_eq_true.mp h1 c hc
  rcases Bool.eq_false_or_eq_true (isCode c) with hi | hi
  · exact h2 c (List.mem_filter.mpr ⟨hc, hi⟩)
  · simpa [hi] using h
set_option maxRecDepth 65536 in
theorem w_c0 : (Jvm.Cond.code x code maxLocals ret).before args0 about1 = true := code_word (m := ⟨1, 1⟩) (meth := k1m1) (c := k1c1) (by decide +kernel) rfl rfl rfl (by decide +kernel)
set_option maxRecDepth 65536 in
theorem w_c1 : (Jvm.Cond.code ({ cls := "com/example/kinfold/kinfold/ValueEncodingForTypePinLaw", name := "typeName", desc := "(IJ)Ljava/lang/String;" } : Jvm.MethodName) method_3_code (9 : Nat) (Option.some (Jvm.ClassFile.FieldType.object "java/lang/String"))).before args0 about1 = true := code_word (m := ⟨1, 2⟩) (meth := k1m2) (c := k1c2) (by decide +kernel) rfl rfl rfl (by decide +kernel)
set_option maxRecDepth 65536 in
theorem w_c2 : (Jvm.Cond.code ({ cls := "com/example/kinfold/kinfold/ValueEncodingForTypePinLaw", name := "expected", desc := "(ILjava/lang/String;)Lcom/example/kinfold/kinfold/ValueEncoding;" } : Jvm.MethodName) method_4_code (9 : Nat) (Option.some (Jvm.ClassFile.FieldType.object "com/example/kinfold/kinfold/ValueEncoding"))).before args0 about1 = true := code_word (m := ⟨1, 3⟩) (meth := k1m3) (c := k1c3) (by decide +kernel) rfl rfl rfl (by decide +kernel)
set_option maxRecDepth 65536 in
theorem w_c3 : (Jvm.Cond.code ({ cls := "java/lang/String", name := "equals", desc := "(Ljava/lang/Object;)Z" } : Jvm.MethodName) jdk_42_method_66_code (3 : Nat) (Option.some Jvm.ClassFile.FieldType.boolean)).before args0 about1 = true := code_word (m := ⟨7, 2⟩) (meth := k7m2) (c := k7c2) (by decide +kernel) rfl rfl rfl (by decide +kernel)
set_option maxRecDepth 65536 in
theorem w_c4 : (Jvm.Cond.code ({ cls := "java/lang/StringLatin1", name := "equals", desc := "([B[B)Z" } : Jvm.MethodName) jdk_43_method_13_code (3 : Nat) (Option.some Jvm.ClassFile.FieldType.boolean)).before args0 about1 = true := code_word (m := ⟨8, 1⟩) (meth := k8m1) (c := k8c1) (by decide +kernel) rfl rfl rfl (by decide +kernel)
set_option maxRecDepth 65536 in
theorem w_c5 : (Jvm.Cond.code ({ cls := "com/example/kinfold/kinfold/ValueEncoding", name := "forType", desc := "(ILjava/lang/String;)Ljava/util/Optional;" } : Jvm.MethodName) prog_29_method_6_code (3 : Nat) (Option.some (Jvm.ClassFile.FieldType.object "java/util/Optional"))).before args0 about1 = true := code_word (m := ⟨10, 0⟩) (meth := k10m0) (c := k10c0) (by decide +kernel) rfl rfl rfl (by decide +kernel)
set_option maxRecDepth 65536 in
theorem w_c6 : (Jvm.Cond.code ({ cls := "java/util/Optional", name := "ofNullable", desc := "(Ljava/lang/Object;)Ljava/util/Optional;" } : Jvm.MethodName) jdk_32_method_4_code (1 : Nat) (Option.some (Jvm.ClassFile.FieldType.object "java/util/Optional"))).before args0 about1 = true := code_word (m := ⟨11, 1⟩) (meth := k11m1) (c := k11c1) (by decide +kernel) rfl rfl rfl (by decide +kernel)
set_option maxRecDepth 65536 in
theorem w_c7 : (Jvm.Cond.code ({ cls := "java/util/Optional", name := "orElse", desc := "(Ljava/lang/Object;)Ljava/lang/Object;" } : Jvm.MethodName) jdk_32_method_15_code (2 : Nat) (Option.some (Jvm.ClassFile.FieldType.object "java/lang/Object"))).before args0 about1 = true := code_word (m := ⟨11, 2⟩) (meth := k11m2) (c := k11c2) (by decide +kernel) rfl rfl rfl (by decide +kernel)
set_option maxRecDepth 65536 in
theorem w_c8 : (Jvm.Cond.code ({ cls := "java/lang/String", name := "<init>", desc := "([C)V" } : Jvm.MethodName) jdk_42_method_3_code (2 : Nat) (Option.none : Option Jvm.ClassFile.FieldType)).before args0 about1 = true := code_word (m := ⟨7, 1⟩) (meth := k7m1) (c := k7c1) (by decide +kernel) rfl rfl rfl (by decide +kernel)
set_option maxRecDepth 65536 in
theorem w_c9 : (Jvm.Cond.code ({ cls := "java/lang/String", name := "<init>", desc := "([CIILjava/lang/Void;)V" } : Jvm.MethodName) jdk_42_method_149_code (6 : Nat) (Option.none : Option Jvm.ClassFile.FieldType)).before args0 about1 = true := code_word (m := ⟨7, 3⟩) (meth := k7m3) (c := k7c3) (by decide +kernel) rfl rfl rfl (by decide +kernel)
set_option maxRecDepth 65536 in
theorem w_c10 : (Jvm.Cond.code ({ cls := "java/lang/Object", name := "<init>", desc := "()V" } : Jvm.MethodName) object_method_1_code (1 : Nat) (Option.none : Option Jvm.ClassFile.FieldType)).before args0 about1 = true := code_word (m := ⟨0, 0⟩) (meth := k0m0) (c := k0c0) (by decide +kernel) rfl rfl rfl (by decide +kernel)
set_option maxRecDepth 65536 in
theorem w_c11 : (Jvm.Cond.code ({ cls := "java/util/Optional", name := "<init>", desc := "(Ljava/lang/Object;)V" } : Jvm.MethodName) jdk_32_method_2_code (2 : Nat) (Option.none : Option Jvm.ClassFile.FieldType)).before args0 about1 = true := code_word (m := ⟨11, 0⟩) (meth := k11m0) (c := k11c0) (by decide +kernel) rfl rfl rfl (by decide +kernel)
set_option maxRecDepth 65536 in
theorem w_c12 : (Jvm.Cond.code ({ cls := "java/lang/StringUTF16", name := "compress", desc := "([CII)[B" } : Jvm.MethodName) jdk_52_method_16_code (6 : Nat) (Option.some (Jvm.ClassFile.FieldType.array Jvm.ClassFile.FieldType.byte))).before args0 about1 = true := code_word (m := ⟨12, 2⟩) (meth := k12m2) (c := k12c2) (by decide +kernel) rfl rfl rfl (by decide +kernel)
set_option maxRecDepth 65536 in
theorem w_c13 : (Jvm.Cond.code ({ cls := "java/lang/StringUTF16", name := "compress", desc := "([CI[BII)I" } : Jvm.MethodName) jdk_52_method_21_code (7 : Nat) (Option.some Jvm.ClassFile.FieldType.int)).before args0 about1 = true := code_word (m := ⟨12, 3⟩) (meth := k12m3) (c := k12c3) (by decide +kernel) rfl rfl rfl (by decide +kernel)
set_option maxRecDepth 65536 in
theorem w_c14 : (Jvm.Cond.code ({ cls := "java/lang/StringUTF16", name := "coderFromArrayLen", desc := "([BI)B" } : Jvm.MethodName) jdk_52_method_15_code (2 : Nat) (Option.some Jvm.ClassFile.FieldType.byte)).before args0 about1 = true := code_word (m := ⟨12, 1⟩) (meth := k12m1) (c := k12c1) (by decide +kernel) rfl rfl rfl (by decide +kernel)
set_option maxRecDepth 65536 in
theorem w_c15 : (Jvm.Cond.code ({ cls := "com/example/kinfold/kinfold/ValueEncoding", name := "forOtherType", desc := "(Ljava/lang/String;)Lcom/example/kinfold/kinfold/ValueEncoding;" } : Jvm.MethodName) prog_29_method_7_code (2 : Nat) (Option.some (Jvm.ClassFile.FieldType.object "com/example/kinfold/kinfold/ValueEncoding"))).before args0 about1 = true := code_word (m := ⟨10, 1⟩) (meth := k10m1) (c := k10c1) (by decide +kernel) rfl rfl rfl (by decide +kernel)
def codes1 : List Jvm.Cond := [Jvm.Cond.code x code maxLocals ret, Jvm.Cond.code ({ cls := "com/example/kinfold/kinfold/ValueEncodingForTypePinLaw", name := "typeName", desc := "(IJ)Ljava/lang/String;" } : Jvm.MethodName) method_3_code (9 : Nat) (Option.some (Jvm.ClassFile.FieldType.object "java/lang/String")), Jvm.Cond.code ({ cls := "com/example/kinfold/kinfold/ValueEncodingForTypePinLaw", name := "expected", desc := "(ILjava/lang/String;)Lcom/example/kinfold/kinfold/ValueEncoding;" } : Jvm.MethodName) method_4_code (9 : Nat) (Option.some (Jvm.ClassFile.FieldType.object "com/example/kinfold/kinfold/ValueEncoding")), Jvm.Cond.code ({ cls := "java/lang/String", name := "equals", desc := "(Ljava/lang/Object;)Z" } : Jvm.MethodName) jdk_42_method_66_code (3 : Nat) (Option.some Jvm.ClassFile.FieldType.boolean), Jvm.Cond.code ({ cls := "java/lang/StringLatin1", name := "equals", desc := "([B[B)Z" } : Jvm.MethodName) jdk_43_method_13_code (3 : Nat) (Option.some Jvm.ClassFile.FieldType.boolean), Jvm.Cond.code ({ cls := "com/example/kinfold/kinfold/ValueEncoding", name := "forType", desc := "(ILjava/lang/String;)Ljava/util/Optional;" } : Jvm.MethodName) prog_29_method_6_code (3 : Nat) (Option.some (Jvm.ClassFile.FieldType.object "java/util/Optional")), Jvm.Cond.code ({ cls := "java/util/Optional", name := "ofNullable", desc := "(Ljava/lang/Object;)Ljava/util/Optional;" } : Jvm.MethodName) jdk_32_method_4_code (1 : Nat) (Option.some (Jvm.ClassFile.FieldType.object "java/util/Optional")), Jvm.Cond.code ({ cls := "java/util/Optional", name := "orElse", desc := "(Ljava/lang/Object;)Ljava/lang/Object;" } : Jvm.MethodName) jdk_32_method_15_code (2 : Nat) (Option.some (Jvm.ClassFile.FieldType.object "java/lang/Object")), Jvm.Cond.code ({ cls := "java/lang/String", name := "<init>", desc := "([C)V" } : Jvm.MethodName) jdk_42_method_3_code (2 : Nat) (Option.none : Option Jvm.ClassFile.FieldType), Jvm.Cond.code ({ cls := "java/lang/String", name := "<init>", desc := "([CIILjava/lang/Void;)V" } : Jvm.MethodName) jdk_42_method_149_code (6 : Nat) (Option.none : Option Jvm.ClassFile.FieldType), Jvm.Cond.code ({ cls := "java/lang/Object", name := "<init>", desc := "()V" } : Jvm.MethodName) object_method_1_code (1 : Nat) (Option.none : Option Jvm.ClassFile.FieldType), Jvm.Cond.code ({ cls := "java/util/Optional", name := "<init>", desc := "(Ljava/lang/Object;)V" } : Jvm.MethodName) jdk_32_method_2_code (2 : Nat) (Option.none : Option Jvm.ClassFile.FieldType), Jvm.Cond.code ({ cls := "java/lang/StringUTF16", name := "compress", desc := "([CII)[B" } : Jvm.MethodName) jdk_52_method_16_code (6 : Nat) (Option.some (Jvm.ClassFile.FieldType.array Jvm.ClassFile.FieldType.byte)), Jvm.Cond.code ({ cls := "java/lang/StringUTF16", name := "compress", desc := "([CI[BII)I" } : Jvm.MethodName) jdk_52_method_21_code (7 : Nat) (Option.some Jvm.ClassFile.FieldType.int), Jvm.Cond.code ({ cls := "java/lang/StringUTF16", name := "coderFromArrayLen", desc := "([BI)B" } : Jvm.MethodName) jdk_52_method_15_code (2 : Nat) (Option.some Jvm.ClassFile.FieldType.byte), Jvm.Cond.code ({ cls := "com/example/kinfold/kinfold/ValueEncoding", name := "forOtherType", desc := "(Ljava/lang/String;)Lcom/example/kinfold/kinfold/ValueEncoding;" } : Jvm.MethodName) prog_29_method_7_code (2 : Nat) (Option.some (Jvm.ClassFile.FieldType.object "com/example/kinfold/kinfold/ValueEncoding"))]
set_option maxRecDepth 65536 in
theorem codes_eq : words1.filter isCode = codes1 := rfl
theorem w_codes : ∀ c ∈ words1.filter isCode, c.before args0 about1 = true := by
  rw [codes_eq]
  intro c hc
  simp only [codes1, List.mem_cons, List.not_mem_nil, or_false] at hc
  rcases hc with rfl | rfl | rfl | rfl | rfl | rfl | rfl | rfl | rfl | rfl | rfl | rfl | rfl | rfl | rfl | rfl
  · exact w_c0
  · exact w_c1
  · exact w_c2
  · exact w_c3
  · exact w_c4
  · exact w_c5
  · exact w_c6
  · exact w_c7
  · exact w_c8
  · exact w_c9
  · exact w_c10
  · exact w_c11
  · exact w_c12
  · exact w_c13
  · exact w_c14
  · exact w_c15
set_option maxRecDepth 65536 in
theorem w_t1 : (words1.take 24).all (fun c => isCode c || c.before args0 about1) = true := by decide +kernel
set_option maxRecDepth 65536 in
theorem w_t2 : ((words1.drop 24).take 24).all (fun c => isCode c || c.before args0 about1) = true := by decide +kernel
set_option maxRecDepth 65536 in
theorem w_t3 : (((words1.drop 24).drop 24).take 24).all (fun c => isCode c || c.before args0 about1) = true := by decide +kernel
set_option maxRecDepth 65536 in
theorem w_t4 : ((((words1.drop 24).drop 24).drop 24).take 24).all (fun c => isCode c || c.before args0 about1) = true := by decide +kernel
set_option maxRecDepth 65536 in
theorem w_t5 : (((((words1.drop 24).drop 24).drop 24).drop 24).take 24).all (fun c => isCode c || c.before args0 about1) = true := by decide +kernel
set_option maxRecDepth 65536 in
theorem w_t6 : (((((words1.drop 24).drop 24).drop 24).drop 24).drop 24).all (fun c => isCode c || c.before args0 about1) = true := by decide +kernel
theorem w_tables : (allAtoms (Jvm.Cond.code x code maxLocals ret :: tables_1)).before args0 about1 = true := by
  rw [allAtoms_all]
  show words1.all (fun c => c.before args0 about1) = true
  refine all_split ?_ w_codes
  rw [← List.take_append_drop 24 words1, List.all_append, w_t1, ← List.take_append_drop 24 (words1.drop 24), List.all_append, w_t2, ← List.take_append_drop 24 ((words1.drop 24).drop 24), List.all_append, w_t3, ← List.take_append_drop 24 (((words1.drop 24).drop 24).drop 24), List.all_append, w_t4, ← List.take_append_drop 24 ((((words1.drop 24).drop 24).drop 24).drop 24), List.all_append, w_t5, w_t6]
  rfl
set_option maxRecDepth 65536 in
theorem w_rest : rest_1_c.before args0 about1 = true := by decide +kernel
set_option maxRecDepth 65536 in
theorem w_case : (Jvm.Cond.and given_1 narrow_1).before args0 about1 = true := by decide +kernel
set_option maxRecDepth 65536 in
theorem w_consts : constsHeld consts_1 about1 := Jvm.Lit.constsHeldB_iff.mp (by decide +kernel)
theorem w_applies : (headSpec (Jvm.Cond.code x code maxLocals ret :: tables_1) room_1).applies x e0.platform about1 = true :=
  (Spec.applies_iff w_frames).mpr ⟨w_running, w_runnable, w_alone, w_named, w_hears, w_ripe, w_room, w_tables⟩
theorem atStart : AtStart classFile x code maxLocals ret World_1 tables_1 room_1 Calls_1 rest_1 Pre_1 launch0 p0 e0 about1 theMethod args0 below0 :=
  ⟨lists_1, trivial, launch0.admits_env _ _ _, launch0.least_env, fairChoices_fair.cas, fairChoices_fair.clock, w_frames, w_args, w_heap, w_applies, ⟨w_consts, trivial⟩, w_rest, w_case⟩
end start1
theorem witness_1 : WitnessClaimed_1 := ⟨start1.p0, start1.e0, start1.about1, start1.theMethod, start1.args0, start1.below0, start1.atStart⟩
end Jvm.Pilot.@@N@@
