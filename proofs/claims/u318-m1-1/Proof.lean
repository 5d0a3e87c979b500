import JvmDerived
import JvmDerived.Pilot.@@N@@Statement
import JvmDerived.Pilot.@@N@@Code
set_option linter.unusedVariables false
set_option linter.unusedSimpArgs false
/- laws to paste: Road.backV, Road.eqW, Road.chN, Road.codOf (cut by pick.py; bodies as the Statement names them) -/
namespace Jvm.Pilot.@@N@@
namespace StrChars
open Jvm Sem ClassFile Op Lib Jvm.Stand Jvm.Free.XT Jvm.Free.ALB Jvm.Free.JM Jvm.Free
open Jvm.Lib.Cold (StaticIs)
/-- a char array whose places are chars -/
def Ch (a : Addr) (A : Cell) (U : State) : Prop := Arr .char a A U ∧ Typed .char A
theorem Ch.mv {a : Addr} {A : Cell} {U U' : State} (h : Ch a A U) (hal : U.vm.Alike U'.vm) (hh : U'.heap = U.heap) : Ch a A U' := ⟨h.1.mv hal hh, h.2⟩
theorem Ch.keep {a : Addr} {A : Cell} {U U' : State} (h : Ch a A U) (hal : U.vm.Alike U'.vm) (hk : U'.heap[a]? = some A) : Ch a A U' := ⟨h.1.keep hal hk, h.2⟩
/-- what place i of a char[]'s cell holds -/
def cv (A : Cell) (i : Nat) : Int32 := match A.slots[i]? with | some (.int x) => x | _ => 0
theorem Ch.get {a : Addr} {A : Cell} {U : State} (h : Ch a A U) {i : Nat} (hi : i < A.slots.size) : A.slots[i]? = some (.int (cv A i)) := by
  have e := Array.getElem?_eq_getElem hi
  have f := h.2 i _ e
  unfold cv; rw [e]
  generalize A.slots[i] = v at f
  cases v <;> simp [fits] at f ⊢
/-- the byte that i2b leaves of a char -/
def lo8 (x : Int32) : Int32 := x.toInt8.toInt32
theorem fits_lo8 (y : Int32) : fits .byte (.int (lo8 y)) = true := by
  have h1 := y.toInt8.le_toInt
  have h2 := y.toInt8.toInt_lt
  simp only [lo8, fits, Bool.and_eq_true, decide_eq_true_eq, Int32.le_iff_toInt_le, Int8.toInt_toInt32, show (-128 : Int32).toInt = -128 from by decide, show (127 : Int32).toInt = 127 from by decide]
  omega
/-- A' is A but that each place j of lo .. hi - 1 holds f j -/
def Laid (A A' : Cell) (lo hi : Nat) (f : Nat → Value) : Prop := A'.cls = A.cls ∧ A'.vm = A.vm ∧ A'.slots.size = A.slots.size ∧ ∀ i, A'.slots[i]? = if lo ≤ i ∧ i < hi then some (f i) else A.slots[i]?
theorem Laid.zero (A : Cell) (lo : Nat) (f : Nat → Value) : Laid A A lo (lo + 0) f := ⟨rfl, rfl, rfl, fun i => by rw [if_neg (by omega)]⟩
theorem Laid.step {A Ak : Cell} {lo k : Nat} {f : Nat → Value} {v : Value} (h : Laid A Ak lo k f) (hlo : lo ≤ k) (hk : k < Ak.slots.size) (hv : v = f k) : Laid A (Ak.setSlot k v) lo (k + 1) f := by
  refine ⟨h.1, h.2.1, by simpa [Cell.setSlot] using h.2.2.1, fun i => ?_⟩
  by_cases e : k = i
  · subst e; rw [Cell.slots_setSlot_self v hk, if_pos (by omega), hv]
  · rw [Cell.slots_setSlot_ne v e, h.2.2.2 i]
    by_cases q : lo ≤ i ∧ i < k
    · rw [if_pos q, if_pos (by omega)]
    · rw [if_neg q, if_neg (by omega)]
def U16 : String := "java/lang/StringUTF16"
namespace Cmp5
def yN : MethodName := ⟨"java/lang/StringUTF16", "compress", "([CI[BII)I"⟩
abbrev yB : ByteArray := jdk_52_method_21_code
theorem d0 : decode yB 0 = .ok (.iconst 0, 1) := by decide +kernel
theorem d1 : decode yB 1 = .ok (.istore 5, 2) := by decide +kernel
theorem d3 : decode yB 3 = .ok (.iload 5, 2) := by decide +kernel
theorem d5 : decode yB 5 = .ok (.iload 4, 2) := by decide +kernel
theorem d7 : decode yB 7 = .ok (.if_icmp (.ge) 37, 3) := by decide +kernel
theorem d10 : decode yB 10 = .ok (.aload_n 0, 1) := by decide +kernel
theorem d11 : decode yB 11 = .ok (.iload_n 1, 1) := by decide +kernel
theorem d12 : decode yB 12 = .ok (.caload, 1) := by decide +kernel
theorem d13 : decode yB 13 = .ok (.istore 6, 2) := by decide +kernel
theorem d15 : decode yB 15 = .ok (.iload 6, 2) := by decide +kernel
theorem d17 : decode yB 17 = .ok (.sipush 255, 3) := by decide +kernel
theorem d20 : decode yB 20 = .ok (.if_icmp (.le) 6, 3) := by decide +kernel
theorem d26 : decode yB 26 = .ok (.aload_n 2, 1) := by decide +kernel
theorem d27 : decode yB 27 = .ok (.iload_n 3, 1) := by decide +kernel
theorem d28 : decode yB 28 = .ok (.iload 6, 2) := by decide +kernel
theorem d30 : decode yB 30 = .ok (.i2b, 1) := by decide +kernel
theorem d31 : decode yB 31 = .ok (.bastore, 1) := by decide +kernel
theorem d32 : decode yB 32 = .ok (.iinc 1 1, 3) := by decide +kernel
theorem d35 : decode yB 35 = .ok (.iinc 3 1, 3) := by decide +kernel
theorem d38 : decode yB 38 = .ok (.iinc 5 1, 3) := by decide +kernel
theorem d41 : decode yB 41 = .ok (.goto (-38), 3) := by decide +kernel
theorem d44 : decode yB 44 = .ok (.iload 4, 2) := by decide +kernel
theorem d46 : decode yB 46 = .ok (.ireturn, 1) := by decide +kernel
def site : List Cond := []
def tab : Cond := tabOf yN yB 7 (some .int) site
def P (b : Addr) (A : Cell) (d : Addr) (B : Cell) (o q len : Nat) (args : Array Value) (s : State) : Prop := args = #[.ref b, .int (Int32.ofNat o), .ref d, .int (Int32.ofNat q), .int (Int32.ofNat len)] ∧ Ch b A s ∧ Arr .byte d B s ∧ b ≠ d ∧ o + len ≤ A.slots.size ∧ q + len ≤ B.slots.size ∧ ∀ i, i < len → ¬ 255 < cv A (o + i)
def E (b : Addr) (A : Cell) (d : Addr) (B : Cell) (o q len : Nat) (r : Option Value) (s u : State) : Prop := r = some (.int (Int32.ofNat len)) ∧ ∃ B', Put d B' s u ∧ Laid B B' q (q + len) (fun j => Value.int (lo8 (cv A (o + (j - q)))))
/-- no char of the range above 255: len; the places written hold each char's low byte -/
theorem law (l : Launch) (b : Addr) (A : Cell) (d : Addr) (B : Cell) (o q len : Nat) : Law l yN 5 5 0 0 yB 7 (some .int) site (P b A d B o q len) (E b A d B o q len) (copyLocs d q len) 0 0 := by
  refine Law.of_walk (plainFor_of_name (by decide +kernel)) (by decide +kernel) (by decide +kernel) (by decide) (fun _ _ h => by rw [h.1]; rfl) (fun _ U U' hal hh h => ⟨h.1, h.2.1.mv hal hh, h.2.2.1.mv hal hh, h.2.2.2⟩) (fun r U U' V V' h1 hal h2 h => ⟨h.1, h.2.elim fun B' q => ⟨B', q.1.mv h1 h2, q.2⟩⟩) ?_
  intro p e s m args below meth c s₁ X0 hexec hbytes hml hret hlk hnm hown hh0 W hP
  obtain ⟨rfl, hA, hB, hne, l1, l2, hp⟩ := hP
  have c1 : Steps p.tables e below (s₁.setTop (entryFrame m #[.ref b, .int (Int32.ofNat o), .ref d, .int (Int32.ofNat q), .int (Int32.ofNat len)] 7)) (s₁.setTop (mkF m 0 #[.val (.ref b), .val (.int (Int32.ofNat o)), .val (.ref d), .val (.int (Int32.ofNat q)), .val (.int (Int32.ofNat len)), .unset, .unset] [])) := entry rfl
  have hA0 := hA.1.mv X0.warmed.alike hh0
  have hB0 := hB.mv X0.warmed.alike hh0
  have a31 := hA.1.2.2.2
  have c2 : Steps p.tables e below (s₁.setTop (entryFrame m #[.ref b, .int (Int32.ofNat o), .ref d, .int (Int32.ofNat q), .int (Int32.ofNat len)] 7)) (s₁.setTop (mkF m 3 #[.val (.ref b), .val (.int (Int32.ofNat o)), .val (.ref d), .val (.int (Int32.ofNat q)), .val (.int (Int32.ofNat len)), .val (.int 0), .unset] [])) := c1.trans (by
    refine iconstV X0.here hexec rfl 0 (hb hbytes d0) (by decide) ?_
    refine XS.istore X0.here hexec rfl (hb hbytes d1) rfl rfl ?_
    exact Steps.refl _)
  have loop : ∀ (r i : Nat), i + r = len → ∀ (z : Slot), (z = .unset ∨ ∃ w, z = .val w ∧ w.category = 1) → ∀ (Tl : State) (Bk : Cell), Stand p l e { frames := 0, locals := 0, cells := 0, slots := 0 } s m #[.ref b, .int (Int32.ofNat o), .ref d, .int (Int32.ofNat q), .int (Int32.ofNat len)] below meth c Tl ([] ++ copyLocs d q i) 0 0 → Put d Bk s₁ Tl → Laid B Bk q (q + i) (fun j => Value.int (lo8 (cv A (o + (j - q))))) →
      Steps p.tables e below (s₁.setTop (entryFrame m #[.ref b, .int (Int32.ofNat o), .ref d, .int (Int32.ofNat q), .int (Int32.ofNat len)] 7)) (Tl.setTop (mkF m 3 #[.val (.ref b), .val (.int (Int32.ofNat (o + i))), .val (.ref d), .val (.int (Int32.ofNat (q + i))), .val (.int (Int32.ofNat len)), .val (.int (Int32.ofNat i)), z] [])) → ∃ (T' : State) (B' : Cell) (z' : Slot), Stand p l e { frames := 0, locals := 0, cells := 0, slots := 0 } s m #[.ref b, .int (Int32.ofNat o), .ref d, .int (Int32.ofNat q), .int (Int32.ofNat len)] below meth c T' ([] ++ copyLocs d q len) 0 0 ∧ Put d B' s₁ T' ∧ Laid B B' q (q + len) (fun j => Value.int (lo8 (cv A (o + (j - q))))) ∧
      Steps p.tables e below (s₁.setTop (entryFrame m #[.ref b, .int (Int32.ofNat o), .ref d, .int (Int32.ofNat q), .int (Int32.ofNat len)] 7)) (T'.setTop (mkF m 3 #[.val (.ref b), .val (.int (Int32.ofNat (o + len))), .val (.ref d), .val (.int (Int32.ofNat (q + len))), .val (.int (Int32.ofNat len)), .val (.int (Int32.ofNat len)), z'] [])) := by
    intro r
    induction r with
    | zero =>
      intro i hi z hz Tl Bk Xl pl fl cl
      have hil : i = len := by omega
      rw [hil] at Xl fl cl
      exact ⟨Tl, Bk, z, Xl, pl, fl, cl⟩
    | succ r ih =>
      intro i hi z hz Tl Bk Xl pl fl cl
      have all := X0.warmed.alike.symm.trans Xl.warmed.alike
      have hAl := hA0.keep all (pl.other hne hA0.1)
      have hBk := hB0.like all pl.1 fl.1 fl.2.1 fl.2.2.1
      have hlt : q + i < Bk.slots.size := by rw [fl.2.2.1]; omega
      have c3 : Steps p.tables e below (s₁.setTop (entryFrame m #[.ref b, .int (Int32.ofNat o), .ref d, .int (Int32.ofNat q), .int (Int32.ofNat len)] 7)) (Tl.setTop (mkF m 12 #[.val (.ref b), .val (.int (Int32.ofNat (o + i))), .val (.ref d), .val (.int (Int32.ofNat (q + i))), .val (.int (Int32.ofNat len)), .val (.int (Int32.ofNat i)), z] [.int (Int32.ofNat (o + i)), .ref b])) := cl.trans (by
        refine XS.iload Xl.here hexec rfl (hb hbytes d3) rfl ?_
        refine XS.iload Xl.here hexec rfl (hb hbytes d5) rfl ?_
        refine XS.icmpNo Xl.here hexec rfl (hb hbytes d7) rfl (ii_ge_f (lt32 (by omega) (by omega))) ?_
        refine XS.aloadN Xl.here hexec rfl (hb hbytes d10) rfl rfl ?_
        refine XS.iloadN Xl.here hexec rfl (hb hbytes d11) rfl ?_
        exact Steps.refl _)
      have c4 : Steps p.tables e below (s₁.setTop (entryFrame m #[.ref b, .int (Int32.ofNat o), .ref d, .int (Int32.ofNat q), .int (Int32.ofNat len)] 7)) (Tl.setTop (mkF m 13 #[.val (.ref b), .val (.int (Int32.ofNat (o + i))), .val (.ref d), .val (.int (Int32.ofNat (q + i))), .val (.int (Int32.ofNat len)), .val (.int (Int32.ofNat i)), z] [.int (cv A (o + i))])) := c3.trans (by
        refine Xl.aget hexec hAl rfl (hA.get (i := o + i) (by omega)) rfl rfl (hb hbytes d12) ?_
        exact Steps.refl _)
      have c5 : Steps p.tables e below (s₁.setTop (entryFrame m #[.ref b, .int (Int32.ofNat o), .ref d, .int (Int32.ofNat q), .int (Int32.ofNat len)] 7)) (Tl.setTop (mkF m 15 #[.val (.ref b), .val (.int (Int32.ofNat (o + i))), .val (.ref d), .val (.int (Int32.ofNat (q + i))), .val (.int (Int32.ofNat len)), .val (.int (Int32.ofNat i)), .val (.int (cv A (o + i)))] [])) := c4.trans (by
        refine XS.istoreS Xl.here hexec rfl (hb hbytes d13) rfl rfl hz ?_
        exact Steps.refl _)
      have c6 : Steps p.tables e below (s₁.setTop (entryFrame m #[.ref b, .int (Int32.ofNat o), .ref d, .int (Int32.ofNat q), .int (Int32.ofNat len)] 7)) (Tl.setTop (mkF m 31 #[.val (.ref b), .val (.int (Int32.ofNat (o + i))), .val (.ref d), .val (.int (Int32.ofNat (q + i))), .val (.int (Int32.ofNat len)), .val (.int (Int32.ofNat i)), .val (.int (cv A (o + i)))] [.int (lo8 (cv A (o + i))), .int (Int32.ofNat (q + i)), .ref d])) := c5.trans (by
        refine XS.iload Xl.here hexec rfl (hb hbytes d15) rfl ?_
        refine sipushV Xl.here hexec rfl 255 (hb hbytes d17) (by decide) ?_
        refine XS.icmpYes Xl.here hexec rfl (pc0 := 20) rfl (hb hbytes d20) rfl (ii_le_t (hp i (by omega))) (by decide) rfl ?_
        refine XS.aloadN Xl.here hexec rfl (hb hbytes d26) rfl rfl ?_
        refine XS.iloadN Xl.here hexec rfl (hb hbytes d27) rfl ?_
        refine XS.iload Xl.here hexec rfl (hb hbytes d28) rfl ?_
        refine i2b Xl.here hexec rfl (hb hbytes d30) rfl ?_
        exact Steps.refl _)
      obtain ⟨T7, X7, p7, st7⟩ := Xl.aput hexec hBk rfl hlt rfl (fits_lo8 (cv A (o + i))) (g := (mkF m 31 #[.val (.ref b), .val (.int (Int32.ofNat (o + i))), .val (.ref d), .val (.int (Int32.ofNat (q + i))), .val (.int (Int32.ofNat len)), .val (.int (Int32.ofNat i)), .val (.int (cv A (o + i)))] [.int (lo8 (cv A (o + i))), .int (Int32.ofNat (q + i)), .ref d])) rfl (rest := []) rfl (hb hbytes d31)
      have c8 : Steps p.tables e below (s₁.setTop (entryFrame m #[.ref b, .int (Int32.ofNat o), .ref d, .int (Int32.ofNat q), .int (Int32.ofNat len)] 7)) (T7.setTop (mkF m 32 #[.val (.ref b), .val (.int (Int32.ofNat (o + i))), .val (.ref d), .val (.int (Int32.ofNat (q + i))), .val (.int (Int32.ofNat len)), .val (.int (Int32.ofNat i)), .val (.int (cv A (o + i)))] [])) := c6.trans (st7 _ (Steps.refl _))
      have c9 : Steps p.tables e below (s₁.setTop (entryFrame m #[.ref b, .int (Int32.ofNat o), .ref d, .int (Int32.ofNat q), .int (Int32.ofNat len)] 7)) (T7.setTop (mkF m 3 #[.val (.ref b), .val (.int (Int32.ofNat (o + i) + 1)), .val (.ref d), .val (.int (Int32.ofNat (q + i) + 1)), .val (.int (Int32.ofNat len)), .val (.int (Int32.ofNat i + 1)), .val (.int (cv A (o + i)))] [])) := c8.trans (by
        refine iincV X7.here hexec rfl 1 (hb hbytes d32) (by decide) rfl rfl ?_
        refine iincV X7.here hexec rfl 1 (hb hbytes d35) (by decide) rfl rfl ?_
        refine iincV X7.here hexec rfl 1 (hb hbytes d38) (by decide) rfl rfl ?_
        refine XS.goto X7.here hexec rfl (pc0 := 41) rfl (hb hbytes d41) (by decide) rfl ?_
        exact Steps.refl _)
      have c10 : Steps p.tables e below (s₁.setTop (entryFrame m #[.ref b, .int (Int32.ofNat o), .ref d, .int (Int32.ofNat q), .int (Int32.ofNat len)] 7)) (T7.setTop (mkF m 3 #[.val (.ref b), .val (.int (Int32.ofNat (o + (i + 1)))), .val (.ref d), .val (.int (Int32.ofNat (q + (i + 1)))), .val (.int (Int32.ofNat len)), .val (.int (Int32.ofNat (i + 1))), .val (.int (cv A (o + i)))] [])) := by
        have := c9
        rw [succ32, succ32, succ32] at this
        exact this
      exact ih (i + 1) (by omega) _ (Or.inr ⟨_, rfl, rfl⟩) T7 _ (by rw [copyLocs_step, ← List.append_assoc]; exact X7) (pl.trans p7) (fl.step (by omega) hlt (by simp)) c10
  obtain ⟨T9, B9, z9, X9, p9, f9, g9⟩ := loop len 0 (by omega) .unset (Or.inl rfl) s₁ B (by simpa [copyLocs] using X0) ⟨hB0.1, fun _ _ => rfl, rfl⟩ (Laid.zero _ _ _) c2
  have c11 : Steps p.tables e below (s₁.setTop (entryFrame m #[.ref b, .int (Int32.ofNat o), .ref d, .int (Int32.ofNat q), .int (Int32.ofNat len)] 7)) (T9.setTop (mkF m 46 #[.val (.ref b), .val (.int (Int32.ofNat (o + len))), .val (.ref d), .val (.int (Int32.ofNat (q + len))), .val (.int (Int32.ofNat len)), .val (.int (Int32.ofNat len)), z9] [.int (Int32.ofNat len)])) := g9.trans (by
    refine XS.iload X9.here hexec rfl (hb hbytes d3) rfl ?_
    refine XS.iload X9.here hexec rfl (hb hbytes d5) rfl ?_
    refine XS.icmpYes X9.here hexec rfl (pc0 := 7) rfl (hb hbytes d7) rfl (ii_ge_t (nlt32 (by omega) (Nat.le_refl _))) (by decide) rfl ?_
    refine XS.iload X9.here hexec rfl (hb hbytes d44) rfl ?_
    exact Steps.refl _)
  exact ⟨T9, some (.int (Int32.ofNat len)), _, _, _, X9, by simp, rfl, rfl, (fun h => by cases h), ⟨rfl, B9, p9.from hh0, f9⟩, fun fs hl => c11.trans (X9.ireturnOut hexec hret rfl (Or.inl rfl) (hb hbytes d46) hl)⟩
end Cmp5
namespace Cmp3
def yN : MethodName := ⟨"java/lang/StringUTF16", "compress", "([CII)[B"⟩
abbrev yB : ByteArray := jdk_52_method_16_code
theorem d0 : decode yB 0 = .ok (.iload_n 2, 1) := by decide +kernel
theorem d1 : decode yB 1 = .ok (.newarray .byte, 2) := by decide +kernel
theorem d3 : decode yB 3 = .ok (.astore_n 3, 1) := by decide +kernel
theorem d4 : decode yB 4 = .ok (.aload_n 0, 1) := by decide +kernel
theorem d5 : decode yB 5 = .ok (.iload_n 1, 1) := by decide +kernel
theorem d6 : decode yB 6 = .ok (.aload_n 3, 1) := by decide +kernel
theorem d7 : decode yB 7 = .ok (.iconst 0, 1) := by decide +kernel
theorem d8 : decode yB 8 = .ok (.iload_n 2, 1) := by decide +kernel
theorem d9 : decode yB 9 = .ok (.invokestatic 115, 3) := by decide +kernel
theorem d12 : decode yB 12 = .ok (.istore 4, 2) := by decide +kernel
theorem d14 : decode yB 14 = .ok (.iload 4, 2) := by decide +kernel
theorem d16 : decode yB 16 = .ok (.iload_n 2, 1) := by decide +kernel
theorem d17 : decode yB 17 = .ok (.if_icmp (.eq) 40, 3) := by decide +kernel
theorem d57 : decode yB 57 = .ok (.aload_n 3, 1) := by decide +kernel
theorem d58 : decode yB 58 = .ok (.areturn, 1) := by decide +kernel
def site : List Cond := [.arrayClass .byte, Cmp5.tab] ++ staticW U16 115 Cmp5.yN
def tab : Cond := tabOf yN yB 6 (some (.array .byte)) site
def P (b : Addr) (A : Cell) (o len : Nat) (args : Array Value) (s : State) : Prop := args = #[.ref b, .int (Int32.ofNat o), .int (Int32.ofNat len)] ∧ Ch b A s ∧ o + len ≤ A.slots.size ∧ len ≤ 536870912 ∧ ∀ i, i < len → ¬ 255 < cv A (o + i)
def E (b : Addr) (A : Cell) (o len : Nat) (r : Option Value) (s u : State) : Prop := NewArr .byte "[B" len (fun j => .int (lo8 (cv A (o + j)))) r s u ∧ u.heap.size = s.heap.size + 1
/-- no char of the range above 255: a new byte[] of their low bytes -/
theorem law (l : Launch) (b : Addr) (A : Cell) (o len : Nat) : Law l yN 3 3 1 18 yB 6 (some (.array .byte)) site (P b A o len) (E b A o len) [] 1 len := by
  refine Law.of_walk (plainFor_of_name (by decide +kernel)) (by decide +kernel) (by decide +kernel) (by decide) (fun _ _ h => by rw [h.1]; rfl) (fun _ U U' hal hh h => ⟨h.1, h.2.1.mv hal hh, h.2.2⟩) (fun r U U' V V' h1 hal h2 h => ⟨NewArr.mv r U U' V V' h1 hal h2 h.1, by rw [h1, h2]; exact h.2⟩) ?_
  intro p e s m args below meth c s₁ X0 hexec hbytes hml hret hlk hnm hown hh0 W hP
  obtain ⟨rfl, hA, l1, l2, hp⟩ := hP
  have a31 := hA.1.2.2.2
  have c1 : Steps p.tables e below (s₁.setTop (entryFrame m #[.ref b, .int (Int32.ofNat o), .int (Int32.ofNat len)] 6)) (s₁.setTop (mkF m 0 #[.val (.ref b), .val (.int (Int32.ofNat o)), .val (.int (Int32.ofNat len)), .unset, .unset, .unset] [])) := entry rfl
  have c2 : Steps p.tables e below (s₁.setTop (entryFrame m #[.ref b, .int (Int32.ofNat o), .int (Int32.ofNat len)] 6)) (s₁.setTop (mkF m 1 #[.val (.ref b), .val (.int (Int32.ofNat o)), .val (.int (Int32.ofNat len)), .unset, .unset, .unset] [.int (Int32.ofNat len)])) := c1.trans (by
    refine XS.iloadN X0.here hexec rfl (hb hbytes d0) rfl ?_
    exact Steps.refl _)
  obtain ⟨T3, B3, X3, ba3, bs3, bv3, bh3, bf3, st3⟩ := X0.anew hexec (atype := .byte) (wk W (.arrayClass .byte)) rfl (by show len * 1 ≤ _; omega) (by omega) (g := (mkF m 1 #[.val (.ref b), .val (.int (Int32.ofNat o)), .val (.int (Int32.ofNat len)), .unset, .unset, .unset] [.int (Int32.ofNat len)])) rfl (hb hbytes d1) (rest := []) rfl (Nat.le_refl _) (by show 0 + len ≤ len; omega)
  rw [hh0] at ba3 st3
  have kp3 : XT.Kept s T3 := (XT.Kept.of_eq hh0).push bh3
  have hA3 := hA.keep X3.warmed.alike (kp3 _ _ hA.1.1)
  have hne : b ≠ s.heap.size := hA.1.ne
  have c4 : Steps p.tables e below (s₁.setTop (entryFrame m #[.ref b, .int (Int32.ofNat o), .int (Int32.ofNat len)] 6)) (T3.setTop (mkF m 3 #[.val (.ref b), .val (.int (Int32.ofNat o)), .val (.int (Int32.ofNat len)), .unset, .unset, .unset] [.ref s.heap.size])) := c2.trans (st3 _ (Steps.refl _))
  have c5 : Steps p.tables e below (s₁.setTop (entryFrame m #[.ref b, .int (Int32.ofNat o), .int (Int32.ofNat len)] 6)) (T3.setTop (mkF m 9 #[.val (.ref b), .val (.int (Int32.ofNat o)), .val (.int (Int32.ofNat len)), .val (.ref s.heap.size), .unset, .unset] [.int (Int32.ofNat len), .int 0, .ref s.heap.size, .int (Int32.ofNat o), .ref b])) := c4.trans (by
    refine XS.astoreN X3.here hexec rfl (hb hbytes d3) rfl rfl rfl ?_
    refine XS.aloadN X3.here hexec rfl (hb hbytes d4) rfl rfl ?_
    refine XS.iloadN X3.here hexec rfl (hb hbytes d5) rfl ?_
    refine XS.aloadN X3.here hexec rfl (hb hbytes d6) rfl rfl ?_
    refine iconstV X3.here hexec rfl 0 (hb hbytes d7) (by decide) ?_
    refine XS.iloadN X3.here hexec rfl (hb hbytes d8) rfl ?_
    exact Steps.refl _)
  obtain ⟨v6, T6, X6, E6, g6⟩ := X3.callS hexec (Cmp5.law l b A s.heap.size B3 o 0 len) hown (wks W (staticW U16 115 Cmp5.yN)) (wk W Cmp5.tab) (W := 0) (Nat.le_of_ble_eq_true rfl) (Nat.le_of_ble_eq_true rfl) (Nat.le_refl _) (by show 0 + len + 0 ≤ len; omega) (g := (mkF m 9 #[.val (.ref b), .val (.int (Int32.ofNat o)), .val (.int (Int32.ofNat len)), .val (.ref s.heap.size), .unset, .unset] [.int (Int32.ofNat len), .int (Int32.ofNat 0), .ref s.heap.size, .int (Int32.ofNat o), .ref b])) rfl (by rw [hml]; rfl) c5 (argsL := [.ref b, .int (Int32.ofNat o), .ref s.heap.size, .int (Int32.ofNat 0), .int (Int32.ofNat len)]) (rest := []) rfl rfl (by show 2 * 0 + 0 ≤ _; decide) (hb hbytes d9) (⟨rfl, hA3, ba3, hne, l1, by rw [bs3]; simp, hp⟩)
  obtain ⟨rfl, B6, p6, f6⟩ := E6
  have c7 : Steps p.tables e below (s₁.setTop (entryFrame m #[.ref b, .int (Int32.ofNat o), .int (Int32.ofNat len)] 6)) (T6.setTop (mkF m 12 #[.val (.ref b), .val (.int (Int32.ofNat o)), .val (.int (Int32.ofNat len)), .val (.ref s.heap.size), .unset, .unset] [.int (Int32.ofNat len)])) := g6
  have c8 : Steps p.tables e below (s₁.setTop (entryFrame m #[.ref b, .int (Int32.ofNat o), .int (Int32.ofNat len)] 6)) (T6.setTop (mkF m 58 #[.val (.ref b), .val (.int (Int32.ofNat o)), .val (.int (Int32.ofNat len)), .val (.ref s.heap.size), .val (.int (Int32.ofNat len)), .unset] [.ref s.heap.size])) := c7.trans (by
    refine XS.istore X6.here hexec rfl (hb hbytes d12) rfl rfl ?_
    refine XS.iload X6.here hexec rfl (hb hbytes d14) rfl ?_
    refine XS.iloadN X6.here hexec rfl (hb hbytes d16) rfl ?_
    refine XS.icmpYes X6.here hexec rfl (pc0 := 17) rfl (hb hbytes d17) rfl (ii_eq_t rfl) (by decide) rfl ?_
    refine XS.aloadN X6.here hexec rfl (hb hbytes d57) rfl rfl ?_
    exact Steps.refl _)
  have X8 := X6.wide (L' := []) (cells' := 1) (slots' := len) (fun x hx hlt => by
    simp only [List.nil_append, copyLocs, List.mem_map, List.mem_range] at hx
    obtain ⟨i, -, rfl⟩ := hx
    exact absurd hlt (Nat.lt_irrefl _)) (Nat.le_refl _) (by omega)
  exact ⟨T6, some (.ref s.heap.size), _, _, _, X8, rfl, rfl, rfl, (fun h => by cases h), ⟨⟨rfl, B6, ba3.like (X3.warmed.alike.symm.trans X6.warmed.alike) p6.1 f6.1 f6.2.1 f6.2.2.1, f6.2.1.trans bv3, by rw [X6.warmed.alike.findClass, f6.1]; exact bf3, by rw [f6.2.2.1, bs3]; simp, fun j hj => by rw [f6.2.2.2 j, if_pos (by omega)]; rfl, kp3.put p6 (Nat.le_refl _)⟩, by rw [p6.2.2, bh3, hh0]; simp⟩, fun fs hl => c8.trans (X8.areturnOut hexec rfl hret rfl (hb hbytes d58) hl)⟩
end Cmp3
namespace CodL
def yN : MethodName := ⟨"java/lang/StringUTF16", "coderFromArrayLen", "([BI)B"⟩
abbrev yB : ByteArray := jdk_52_method_15_code
theorem d0 : decode yB 0 = .ok (.iload_n 1, 1) := by decide +kernel
theorem d1 : decode yB 1 = .ok (.aload_n 0, 1) := by decide +kernel
theorem d2 : decode yB 2 = .ok (.arraylength, 1) := by decide +kernel
theorem d3 : decode yB 3 = .ok (.isub, 1) := by decide +kernel
theorem d4 : decode yB 4 = .ok (.bipush 31, 2) := by decide +kernel
theorem d6 : decode yB 6 = .ok (.iushr, 1) := by decide +kernel
theorem d7 : decode yB 7 = .ok (.i2b, 1) := by decide +kernel
theorem d8 : decode yB 8 = .ok (.ireturn, 1) := by decide +kernel
def site : List Cond := []
def tab : Cond := tabOf yN yB 2 (some .byte) site
def P (d : Addr) (B : Cell) (args : Array Value) (s : State) : Prop := args = #[.ref d, .int (Int32.ofNat B.slots.size)] ∧ Arr .byte d B s
def E (r : Option Value) (s u : State) : Prop := XT.PureE (some (.int 0)) r s u
/-- an array as long as the number of chars: LATIN1 -/
theorem law (l : Launch) (d : Addr) (B : Cell) : Law l yN 2 2 0 0 yB 2 (some .byte) site (P d B) E [] 0 0 := by
  refine Law.of_walk (plainFor_of_name (by decide +kernel)) (by decide +kernel) (by decide +kernel) (by decide) (fun _ _ h => by rw [h.1]; rfl) (fun _ U U' hal hh h => ⟨h.1, h.2.mv hal hh⟩) (fun r U U' V V' h1 hal h2 h => XT.PureE.mv r U U' V V' h1 hal h2 h) ?_
  intro p e s m args below meth c s₁ X0 hexec hbytes hml hret hlk hnm hown hh0 W hP
  obtain ⟨rfl, hB⟩ := hP
  have hB0 := hB.mv X0.warmed.alike hh0
  have c1 : Steps p.tables e below (s₁.setTop (entryFrame m #[.ref d, .int (Int32.ofNat B.slots.size)] 2)) (s₁.setTop (mkF m 0 #[.val (.ref d), .val (.int (Int32.ofNat B.slots.size))] [])) := entry rfl
  have c2 : Steps p.tables e below (s₁.setTop (entryFrame m #[.ref d, .int (Int32.ofNat B.slots.size)] 2)) (s₁.setTop (mkF m 2 #[.val (.ref d), .val (.int (Int32.ofNat B.slots.size))] [.ref d, .int (Int32.ofNat B.slots.size)])) := c1.trans (by
    refine XS.iloadN X0.here hexec rfl (hb hbytes d0) rfl ?_
    refine XS.aloadN X0.here hexec rfl (hb hbytes d1) rfl rfl ?_
    exact Steps.refl _)
  have c3 : Steps p.tables e below (s₁.setTop (entryFrame m #[.ref d, .int (Int32.ofNat B.slots.size)] 2)) (s₁.setTop (mkF m 8 #[.val (.ref d), .val (.int (Int32.ofNat B.slots.size))] [.int (lo8 (ushr (Int32.ofNat B.slots.size - Int32.ofNat B.slots.size) 31))])) := c2.trans (by
    refine X0.alen hexec hB0 rfl rfl (hb hbytes d2) ?_
    refine XS.isub X0.here hexec rfl (hb hbytes d3) rfl ?_
    refine bipushV X0.here hexec rfl 31 (hb hbytes d4) (by decide) ?_
    refine iushr X0.here hexec rfl (hb hbytes d6) rfl ?_
    refine i2b X0.here hexec rfl (hb hbytes d7) rfl ?_
    exact Steps.refl _)
  have e0 : lo8 (ushr (Int32.ofNat B.slots.size - Int32.ofNat B.slots.size) 31) = 0 := by rw [Int32.sub_self]; decide
  rw [e0] at c3
  exact ⟨s₁, some (.int 0), _, _, _, X0, rfl, rfl, rfl, (fun h => by cases h), ⟨rfl, hh0⟩, fun fs hl => c3.trans (X0.ireturnOut hexec hret rfl (Or.inr (Or.inr (Or.inl rfl))) (hb hbytes d8) hl)⟩
end CodL
/-- the String at a is Latin-1 over a new byte[] (the heap's one new cell): the low bytes of the len chars of A from o on; every cell but a is kept -/
def Got (a : Addr) (D : Cell) (fV fC : Field) (A : Cell) (o len : Nat) (r : Option Value) (s u : State) : Prop := r = none ∧ ∃ D' V : Cell, Blank "java/lang/String" a D' u ∧ Same D D' [fV.slot, fC.slot] ∧ D'.slots[fV.slot]? = some (.ref s.heap.size) ∧ D'.slots[fC.slot]? = some (.int 0) ∧ Arr .byte s.heap.size V u ∧ V.vm = .none ∧ u.vm.findClass "[B" = some V.cls ∧ V.slots.size = len ∧ (∀ j, j < len → V.slots[j]? = some (.int (lo8 (cv A (o + j))))) ∧ (∀ (y : Addr) (c : Cell), y ≠ a → s.heap[y]? = some c → u.heap[y]? = some c) ∧ u.heap.size = s.heap.size + 1
theorem Got.mv {a : Addr} {D A : Cell} {fV fC : Field} {o len : Nat} : ∀ r (U U' V V' : State), U'.heap = U.heap → V.vm.Alike V'.vm → V'.heap = V.heap → Got a D fV fC A o len r U V → Got a D fV fC A o len r U' V' :=
  fun r U U' V V' h1 hal h2 ⟨e0, D', X, a1, a2, a3, a4, a5, a6, a7, a8, a9, a10, a11⟩ => ⟨e0, D', X, a1.mv hal h2, a2, by rw [h1]; exact a3, a4, by rw [h1]; exact a5.mv hal h2, a6, by rw [hal.findClass]; exact a7, a8, a9, by rw [h1, h2]; exact a10, by rw [h1, h2]; exact a11⟩
namespace New4
def yN : MethodName := ⟨"java/lang/String", "<init>", "([CIILjava/lang/Void;)V"⟩
abbrev yB : ByteArray := jdk_42_method_149_code
theorem d0 : decode yB 0 = .ok (.aload_n 0, 1) := by decide +kernel
theorem d1 : decode yB 1 = .ok (.invokespecial 1, 3) := by decide +kernel
theorem d4 : decode yB 4 = .ok (.iload_n 3, 1) := by decide +kernel
theorem d5 : decode yB 5 = .ok (.ifCond (.ne) 22, 3) := by decide +kernel
theorem d27 : decode yB 27 = .ok (.getstatic 38, 3) := by decide +kernel
theorem d30 : decode yB 30 = .ok (.ifCond (.eq) 28, 3) := by decide +kernel
theorem d33 : decode yB 33 = .ok (.aload_n 1, 1) := by decide +kernel
theorem d34 : decode yB 34 = .ok (.iload_n 2, 1) := by decide +kernel
theorem d35 : decode yB 35 = .ok (.iload_n 3, 1) := by decide +kernel
theorem d36 : decode yB 36 = .ok (.invokestatic 177, 3) := by decide +kernel
theorem d39 : decode yB 39 = .ok (.astore 5, 2) := by decide +kernel
theorem d41 : decode yB 41 = .ok (.aload_n 0, 1) := by decide +kernel
theorem d42 : decode yB 42 = .ok (.aload 5, 2) := by decide +kernel
theorem d44 : decode yB 44 = .ok (.iload_n 3, 1) := by decide +kernel
theorem d45 : decode yB 45 = .ok (.invokestatic 47, 3) := by decide +kernel
theorem d48 : decode yB 48 = .ok (.putfield 15, 3) := by decide +kernel
theorem d51 : decode yB 51 = .ok (.aload_n 0, 1) := by decide +kernel
theorem d52 : decode yB 52 = .ok (.aload 5, 2) := by decide +kernel
theorem d54 : decode yB 54 = .ok (.putfield 9, 3) := by decide +kernel
theorem d57 : decode yB 57 = .ok (.return_, 1) := by decide +kernel
def site : List Cond := [.fieldLink "java/lang/String" 38 "java/lang/String" "COMPACT_STRINGS" "Z", Cmp3.tab, CodL.tab, .laysFinal "java/lang/String" "java/lang/String" "value" "[B", .fieldLink "java/lang/String" 9 "java/lang/String" "value" "[B", .laysFinal "java/lang/String" "java/lang/String" "coder" "B", .fieldLink "java/lang/String" 15 "java/lang/String" "coder" "B"] ++ objW "java/lang/String" 1 ++ staticW "java/lang/String" 177 Cmp3.yN ++ staticW "java/lang/String" 47 CodL.yN
def tab : Cond := tabOf yN yB 6 none site
def P (a : Addr) (D : Cell) (fV fC : Field) (b : Addr) (A : Cell) (z : Int32) (o len : Nat) (args : Array Value) (s : State) : Prop := args = #[.ref a, .ref b, .int (Int32.ofNat o), .int (Int32.ofNat len), .null] ∧ Blank "java/lang/String" a D s ∧ Found "java/lang/String" "value" "[B" fV s ∧ Found "java/lang/String" "coder" "B" fC s ∧ Ch b A s ∧ StaticIs s "java/lang/String" "COMPACT_STRINGS" "Z" (.int z) ∧ ¬ z = 0 ∧ 0 < len ∧ o + len ≤ A.slots.size ∧ len ≤ 536870912 ∧ ∀ i, i < len → ¬ 255 < cv A (o + i)
def E (a : Addr) (D : Cell) (fV fC : Field) (A : Cell) (o len : Nat) (r : Option Value) (s u : State) : Prop := Got a D fV fC A o len r s u
/-- len > 0, no char of the range above 255: a Latin-1 String of their low bytes -/
theorem law (l : Launch) (a : Addr) (D : Cell) (fV fC : Field) (b : Addr) (A : Cell) (z : Int32) (o len : Nat) : Law l yN 5 4 2 35 yB 6 none site (P a D fV fC b A z o len) (E a D fV fC A o len) [⟨a, fC.slot⟩, ⟨a, fV.slot⟩] 1 len := by
  refine Law.of_walk (plainFor_of_name (by decide +kernel)) (by decide +kernel) (by decide +kernel) (by decide) (fun _ _ h => by rw [h.1]; rfl) (fun _ U U' hal hh h => ⟨h.1, h.2.1.mv hal hh, h.2.2.1.al hal, h.2.2.2.1.al hal, h.2.2.2.2.1.mv hal hh, h.2.2.2.2.2.1.there hal hh, h.2.2.2.2.2.2⟩) (fun r U U' V V' h1 hal h2 h => Got.mv r U U' V V' h1 hal h2 h) ?_
  intro p e s m args below meth c s₁ X0 hexec hbytes hml hret hlk hnm hown hh0 W hP
  obtain ⟨rfl, hB, f1, f2, hA, s1, hz, l0, l1, l2, hp⟩ := hP
  have a31 := hA.1.2.2.2
  have c1 : Steps p.tables e below (s₁.setTop (entryFrame m #[.ref a, .ref b, .int (Int32.ofNat o), .int (Int32.ofNat len), .null] 6)) (s₁.setTop (mkF m 0 #[.val (.ref a), .val (.ref b), .val (.int (Int32.ofNat o)), .val (.int (Int32.ofNat len)), .val .null, .unset] [])) := entry rfl
  have c2 : Steps p.tables e below (s₁.setTop (entryFrame m #[.ref a, .ref b, .int (Int32.ofNat o), .int (Int32.ofNat len), .null] 6)) (s₁.setTop (mkF m 1 #[.val (.ref a), .val (.ref b), .val (.int (Int32.ofNat o)), .val (.int (Int32.ofNat len)), .val .null, .unset] [.ref a])) := c1.trans (by
    refine XS.aloadN X0.here hexec rfl (hb hbytes d0) rfl rfl ?_
    exact Steps.refl _)
  obtain ⟨T3, X3, q3, st3⟩ := X0.oinit hexec hown (wks W (objW "java/lang/String" 1)) (g := (mkF m 1 #[.val (.ref a), .val (.ref b), .val (.int (Int32.ofNat o)), .val (.int (Int32.ofNat len)), .val .null, .unset] [.ref a])) rfl (by rw [hml]; rfl) (rest := []) rfl (hb hbytes d1) (W := 0) (by show 2 * 0 + 0 ≤ _; decide) (Nat.le_of_ble_eq_true rfl) (Nat.le_of_ble_eq_true rfl)
  have hh3 := q3.trans hh0
  have c4 : Steps p.tables e below (s₁.setTop (entryFrame m #[.ref a, .ref b, .int (Int32.ofNat o), .int (Int32.ofNat len), .null] 6)) (T3.setTop (mkF m 27 #[.val (.ref a), .val (.ref b), .val (.int (Int32.ofNat o)), .val (.int (Int32.ofNat len)), .val .null, .unset] [])) := (c2.trans (st3 _ (Steps.refl _))).trans (by
    refine XS.iloadN X3.here hexec rfl (hb hbytes d4) rfl ?_
    refine XS.ifYes X3.here hexec rfl (pc0 := 5) rfl (hb hbytes d5) rfl (i0_ne_t (nz32 (by omega) l0)) (by decide) rfl ?_
    exact Steps.refl _)
  obtain ⟨T5, X5, q5, st5⟩ := X3.sget hexec hown (wk W (.fieldLink "java/lang/String" 38 "java/lang/String" "COMPACT_STRINGS" "Z")) s1 (fun _ _ h => by rw [hh3]; exact h) (g := (mkF m 27 #[.val (.ref a), .val (.ref b), .val (.int (Int32.ofNat o)), .val (.int (Int32.ofNat len)), .val .null, .unset] [])) rfl (hb hbytes d27)
  have hh5 := q5.trans hh3
  have c6 : Steps p.tables e below (s₁.setTop (entryFrame m #[.ref a, .ref b, .int (Int32.ofNat o), .int (Int32.ofNat len), .null] 6)) (T5.setTop (mkF m 30 #[.val (.ref a), .val (.ref b), .val (.int (Int32.ofNat o)), .val (.int (Int32.ofNat len)), .val .null, .unset] [.int z])) := c4.trans (st5 _ (Steps.refl _))
  have c7 : Steps p.tables e below (s₁.setTop (entryFrame m #[.ref a, .ref b, .int (Int32.ofNat o), .int (Int32.ofNat len), .null] 6)) (T5.setTop (mkF m 36 #[.val (.ref a), .val (.ref b), .val (.int (Int32.ofNat o)), .val (.int (Int32.ofNat len)), .val .null, .unset] [.int (Int32.ofNat len), .int (Int32.ofNat o), .ref b])) := c6.trans (by
    refine XS.ifNo X5.here hexec rfl (hb hbytes d30) rfl (i0_eq_f hz) ?_
    refine XS.aloadN X5.here hexec rfl (hb hbytes d33) rfl rfl ?_
    refine XS.iloadN X5.here hexec rfl (hb hbytes d34) rfl ?_
    refine XS.iloadN X5.here hexec rfl (hb hbytes d35) rfl ?_
    exact Steps.refl _)
  obtain ⟨v8, T8, X8, E8, g8⟩ := X5.callS hexec (Cmp3.law l b A o len) hown (wks W (staticW "java/lang/String" 177 Cmp3.yN)) (wk W Cmp3.tab) (W := 0) (Nat.le_of_ble_eq_true rfl) (Nat.le_of_ble_eq_true rfl) (Nat.le_refl _) (by show 0 + len ≤ len; omega) (g := (mkF m 36 #[.val (.ref a), .val (.ref b), .val (.int (Int32.ofNat o)), .val (.int (Int32.ofNat len)), .val .null, .unset] [.int (Int32.ofNat len), .int (Int32.ofNat o), .ref b])) rfl (by rw [hml]; rfl) c7 (argsL := [.ref b, .int (Int32.ofNat o), .int (Int32.ofNat len)]) (rest := []) rfl rfl (by show 2 * 0 + 0 ≤ _; decide) (hb hbytes d36) (⟨rfl, hA.mv X5.warmed.alike hh5, l1, l2, hp⟩)
  obtain ⟨e8, z8⟩ := E8
  obtain ⟨rfl, N, n1, n2, n3, n4, n5, n6⟩ := NewArr.mv _ T5 s _ _ hh5.symm (Vm.Alike.refl _) rfl e8
  rw [hh5] at z8
  have hB1 := hB.keep X8.warmed.alike (n6 _ _ hB.1)
  have hne : s.heap.size ≠ a := (Nat.ne_of_lt (Array.getElem?_eq_some_iff.mp hB.1).1).symm
  have c9 : Steps p.tables e below (s₁.setTop (entryFrame m #[.ref a, .ref b, .int (Int32.ofNat o), .int (Int32.ofNat len), .null] 6)) (T8.setTop (mkF m 39 #[.val (.ref a), .val (.ref b), .val (.int (Int32.ofNat o)), .val (.int (Int32.ofNat len)), .val .null, .unset] [.ref s.heap.size])) := g8
  have c10 : Steps p.tables e below (s₁.setTop (entryFrame m #[.ref a, .ref b, .int (Int32.ofNat o), .int (Int32.ofNat len), .null] 6)) (T8.setTop (mkF m 45 #[.val (.ref a), .val (.ref b), .val (.int (Int32.ofNat o)), .val (.int (Int32.ofNat len)), .val .null, .val (.ref s.heap.size)] [.int (Int32.ofNat N.slots.size), .ref s.heap.size, .ref a])) := by
    have hc : Steps p.tables e below (s₁.setTop (entryFrame m #[.ref a, .ref b, .int (Int32.ofNat o), .int (Int32.ofNat len), .null] 6)) (T8.setTop (mkF m 45 #[.val (.ref a), .val (.ref b), .val (.int (Int32.ofNat o)), .val (.int (Int32.ofNat len)), .val .null, .val (.ref s.heap.size)] [.int (Int32.ofNat len), .ref s.heap.size, .ref a])) := c9.trans (by
      refine XS.astore X8.here hexec rfl (hb hbytes d39) rfl rfl rfl ?_
      refine XS.aloadN X8.here hexec rfl (hb hbytes d41) rfl rfl ?_
      refine XS.aload X8.here hexec rfl (hb hbytes d42) rfl rfl ?_
      refine XS.iloadN X8.here hexec rfl (hb hbytes d44) rfl ?_
      exact Steps.refl _)
    rw [n4]; exact hc
  obtain ⟨v11, T11, X11, E11, g11⟩ := X8.callS hexec (CodL.law l s.heap.size N) hown (wks W (staticW "java/lang/String" 47 CodL.yN)) (wk W CodL.tab) (W := 1) (Nat.le_of_ble_eq_true rfl) (Nat.le_of_ble_eq_true rfl) (Nat.le_refl _) (by show 0 + len + 0 ≤ len; omega) (g := (mkF m 45 #[.val (.ref a), .val (.ref b), .val (.int (Int32.ofNat o)), .val (.int (Int32.ofNat len)), .val .null, .val (.ref s.heap.size)] [.int (Int32.ofNat N.slots.size), .ref s.heap.size, .ref a])) rfl (by rw [hml]; rfl) c10 (argsL := [.ref s.heap.size, .int (Int32.ofNat N.slots.size)]) (rest := [.ref a]) rfl rfl (by show 2 * 0 + (1 + 0) ≤ _; decide) (hb hbytes d45) (⟨rfl, n1⟩)
  obtain ⟨rfl, q11⟩ := E11
  have hB11 := hB1.mv (X8.warmed.alike.symm.trans X11.warmed.alike) q11
  have c12 : Steps p.tables e below (s₁.setTop (entryFrame m #[.ref a, .ref b, .int (Int32.ofNat o), .int (Int32.ofNat len), .null] 6)) (T11.setTop (mkF m 48 #[.val (.ref a), .val (.ref b), .val (.int (Int32.ofNat o)), .val (.int (Int32.ofNat len)), .val .null, .val (.ref s.heap.size)] [.int 0, .ref a])) := g11
  obtain ⟨T13, X13, p13, bl13, sl13, st13⟩ := X11.finit hexec hown (wk W (.fieldLink "java/lang/String" 15 "java/lang/String" "coder" "B")) (Or.inr ⟨_, (wk W (.laysFinal "java/lang/String" "java/lang/String" "coder" "B"))⟩) (Or.inl ⟨rfl, hnm⟩) f2 (Or.inl rfl) hB11 (t := .byte) (by decide +kernel) rfl (g := (mkF m 48 #[.val (.ref a), .val (.ref b), .val (.int (Int32.ofNat o)), .val (.int (Int32.ofNat len)), .val .null, .val (.ref s.heap.size)] [.int 0, .ref a])) rfl (rest := []) rfl (hb hbytes d48)
  have c14 : Steps p.tables e below (s₁.setTop (entryFrame m #[.ref a, .ref b, .int (Int32.ofNat o), .int (Int32.ofNat len), .null] 6)) (T13.setTop (mkF m 54 #[.val (.ref a), .val (.ref b), .val (.int (Int32.ofNat o)), .val (.int (Int32.ofNat len)), .val .null, .val (.ref s.heap.size)] [.ref s.heap.size, .ref a])) := (c12.trans (st13 _ (Steps.refl _))).trans (by
    refine XS.aloadN X13.here hexec rfl (hb hbytes d51) rfl rfl ?_
    refine XS.aload X13.here hexec rfl (hb hbytes d52) rfl rfl ?_
    exact Steps.refl _)
  obtain ⟨T15, X15, p15, bl15, sl15, st15⟩ := X13.finit hexec hown (wk W (.fieldLink "java/lang/String" 9 "java/lang/String" "value" "[B")) (Or.inr ⟨_, (wk W (.laysFinal "java/lang/String" "java/lang/String" "value" "[B"))⟩) (Or.inl ⟨rfl, hnm⟩) f1 (Or.inl rfl) bl13 (t := (.array .byte)) (by decide +kernel) rfl (g := (mkF m 54 #[.val (.ref a), .val (.ref b), .val (.int (Int32.ofNat o)), .val (.int (Int32.ofNat len)), .val .null, .val (.ref s.heap.size)] [.ref s.heap.size, .ref a])) rfl (rest := []) rfl (hb hbytes d54)
  have c16 : Steps p.tables e below (s₁.setTop (entryFrame m #[.ref a, .ref b, .int (Int32.ofNat o), .int (Int32.ofNat len), .null] 6)) (T15.setTop (mkF m 57 #[.val (.ref a), .val (.ref b), .val (.int (Int32.ofNat o)), .val (.int (Int32.ofNat len)), .val .null, .val (.ref s.heap.size)] [])) := c14.trans (st15 _ (Steps.refl _))
  have ap := apart (Or.inr ⟨_, (wk W (.laysFinal "java/lang/String" "java/lang/String" "value" "[B"))⟩) (Or.inr ⟨_, (wk W (.laysFinal "java/lang/String" "java/lang/String" "coder" "B"))⟩) f1 f2 (t₁ := .array .byte) (t₂ := .byte) (by decide +kernel) (by decide +kernel) (by decide)
  have al := X8.warmed.alike.symm.trans X15.warmed.alike
  have n7 : T11.heap[s.heap.size]? = some N := by rw [q11]; exact n1.1
  exact ⟨T15, none, _, _, _, X15, by simp, rfl, by omega, (fun _ => rfl), ⟨rfl, _, N, bl15, ((Same.refl D _).set _ (by simp)).set _ (by simp), sl15, (Cell.slots_setSlot_ne _ ap).trans sl13, n1.keep al (p15.other hne (p13.other hne n7)), n2, by rw [al.findClass]; exact n3, n4, n5, fun y c h1 h2 => p15.other h1 (p13.other h1 (by rw [q11]; exact n6 y c h2)), by rw [p15.2.2, p13.2.2, q11]; exact z8⟩, fun fs hl => c16.trans (X15.returnOut hexec hret (hb hbytes d57) hl)⟩
end New4
namespace New1
def yN : MethodName := ⟨"java/lang/String", "<init>", "([C)V"⟩
abbrev yB : ByteArray := jdk_42_method_3_code
theorem d0 : decode yB 0 = .ok (.aload_n 0, 1) := by decide +kernel
theorem d1 : decode yB 1 = .ok (.aload_n 1, 1) := by decide +kernel
theorem d2 : decode yB 2 = .ok (.iconst 0, 1) := by decide +kernel
theorem d3 : decode yB 3 = .ok (.aload_n 1, 1) := by decide +kernel
theorem d4 : decode yB 4 = .ok (.arraylength, 1) := by decide +kernel
theorem d5 : decode yB 5 = .ok (.aconst_null, 1) := by decide +kernel
theorem d6 : decode yB 6 = .ok (.invokespecial 27, 3) := by decide +kernel
theorem d9 : decode yB 9 = .ok (.return_, 1) := by decide +kernel
def site : List Cond := [New4.tab] ++ initW "java/lang/String" 27 New4.yN
def tab : Cond := tabOf yN yB 2 none site
def P (a : Addr) (D : Cell) (fV fC : Field) (b : Addr) (A : Cell) (z : Int32) (args : Array Value) (s : State) : Prop := args = #[.ref a, .ref b] ∧ Blank "java/lang/String" a D s ∧ Found "java/lang/String" "value" "[B" fV s ∧ Found "java/lang/String" "coder" "B" fC s ∧ Ch b A s ∧ StaticIs s "java/lang/String" "COMPACT_STRINGS" "Z" (.int z) ∧ ¬ z = 0 ∧ 0 < A.slots.size ∧ A.slots.size ≤ 536870912 ∧ ∀ i, i < A.slots.size → ¬ 255 < cv A i
def E (a : Addr) (D : Cell) (fV fC : Field) (A : Cell) (r : Option Value) (s u : State) : Prop := Got a D fV fC A 0 A.slots.size r s u
/-- new String(chars), not empty, no char above 255: a Latin-1 String of their low bytes -/
theorem law (l : Launch) (a : Addr) (D : Cell) (fV fC : Field) (b : Addr) (A : Cell) (z : Int32) : Law l yN 2 1 3 52 yB 2 none site (P a D fV fC b A z) (E a D fV fC A) [⟨a, fC.slot⟩, ⟨a, fV.slot⟩] 1 A.slots.size := by
  refine Law.of_walk (plainFor_of_name (by decide +kernel)) (by decide +kernel) (by decide +kernel) (by decide) (fun _ _ h => by rw [h.1]; rfl) (fun _ U U' hal hh h => ⟨h.1, h.2.1.mv hal hh, h.2.2.1.al hal, h.2.2.2.1.al hal, h.2.2.2.2.1.mv hal hh, h.2.2.2.2.2.1.there hal hh, h.2.2.2.2.2.2⟩) (fun r U U' V V' h1 hal h2 h => Got.mv r U U' V V' h1 hal h2 h) ?_
  intro p e s m args below meth c s₁ X0 hexec hbytes hml hret hlk hnm hown hh0 W hP
  obtain ⟨rfl, hB, f1, f2, hA, s1, hz, l0, l2, hp⟩ := hP
  have c1 : Steps p.tables e below (s₁.setTop (entryFrame m #[.ref a, .ref b] 2)) (s₁.setTop (mkF m 0 #[.val (.ref a), .val (.ref b)] [])) := entry rfl
  have c2 : Steps p.tables e below (s₁.setTop (entryFrame m #[.ref a, .ref b] 2)) (s₁.setTop (mkF m 6 #[.val (.ref a), .val (.ref b)] [.null, .int (Int32.ofNat A.slots.size), .int 0, .ref b, .ref a])) := c1.trans (by
    refine XS.aloadN X0.here hexec rfl (hb hbytes d0) rfl rfl ?_
    refine XS.aloadN X0.here hexec rfl (hb hbytes d1) rfl rfl ?_
    refine iconstV X0.here hexec rfl 0 (hb hbytes d2) (by decide) ?_
    refine XS.aloadN X0.here hexec rfl (hb hbytes d3) rfl rfl ?_
    refine X0.alen hexec (hA.1.mv X0.warmed.alike hh0) rfl rfl (hb hbytes d4) ?_
    refine XS.aconstNull X0.here hexec rfl (hb hbytes d5) ?_
    exact Steps.refl _)
  obtain ⟨v3, T3, X3, E3, g3⟩ := X0.callN hexec (New4.law l a D fV fC b A z 0 A.slots.size) rfl hown (wks W (initW "java/lang/String" 27 New4.yN)) (W New4.tab (by simp only [site, List.mem_cons, List.mem_append, true_or, or_true])) (W := 0) (Nat.le_of_ble_eq_true rfl) (Nat.le_of_ble_eq_true rfl) (Nat.le_refl _) (by show 0 + A.slots.size ≤ A.slots.size; omega) (g := (mkF m 6 #[.val (.ref a), .val (.ref b)] [.null, .int (Int32.ofNat A.slots.size), .int (Int32.ofNat 0), .ref b, .ref a])) rfl (by rw [hml]; rfl) c2 (argsL := [.ref b, .int (Int32.ofNat 0), .int (Int32.ofNat A.slots.size), .null]) (rest := []) rfl rfl (by show 2 * 0 + 0 ≤ _; decide) (hb hbytes d6) (⟨rfl, hB.mv X0.warmed.alike hh0, f1.al X0.warmed.alike, f2.al X0.warmed.alike, hA.mv X0.warmed.alike hh0, s1.there X0.warmed.alike hh0, hz, l0, by omega, l2, fun i hi => by rw [Nat.zero_add]; exact hp i hi⟩)
  have e0 := Got.mv _ s₁ s _ _ hh0.symm (Vm.Alike.refl _) rfl E3
  obtain rfl := e0.1
  have c4 : Steps p.tables e below (s₁.setTop (entryFrame m #[.ref a, .ref b] 2)) (T3.setTop (mkF m 9 #[.val (.ref a), .val (.ref b)] [])) := g3
  exact ⟨T3, none, _, _, _, X3, by simp, rfl, by omega, (fun _ => rfl), e0, fun fs hl => c4.trans (X3.returnOut hexec hret (hb hbytes d9) hl)⟩
theorem pays {l : Launch} {R : Room} {p : Program} {e : Env} {below : List Frame} {s : State} {sargs : Array Value} {len W : Nat} (a : Addr) (D : Cell) (fV fC : Field) (b : Addr) (A : Cell) (z : Int32) (htab : tab.before sargs s = true) (hfr : 4 ≤ R.frames) (hlo : W + 65 ≤ R.locals) :
    Back l R p e below s sargs yN len W (fun A₁ a₁ => A₁.cells + 1 ≤ R.cells ∧ A₁.slots + A.slots.size ≤ R.slots ∧ P a D fV fC b A z a₁ A₁.U) (fun A₁ _ v₁ B₁ => E a D fV fC A v₁ A₁.U B₁.U ∧ B₁.locs = A₁.locs ++ [⟨a, fC.slot⟩, ⟨a, fV.slot⟩] ∧ B₁.cells = A₁.cells + 1 ∧ B₁.slots = A₁.slots + A.slots.size) :=
  (law l a D fV fC b A z).pays htab hfr (by omega)
end New1
/-- the byte, read back as charAt reads it, is the char -/
theorem lo8_mask {x : Int32} (h0 : ¬ x < 0) (h1 : ¬ 255 < x) : lo8 x &&& 255 = x := by
  have t : ∀ k : Fin 256, lo8 (Int32.ofNat k.val) &&& 255 = Int32.ofNat k.val := by decide +kernel
  rw [Int32.lt_iff_toInt_lt] at h0 h1
  have e0 : (0 : Int32).toInt = 0 := rfl
  have e1 : (255 : Int32).toInt = 255 := rfl
  obtain ⟨k, hk⟩ : ∃ k : Nat, x.toInt = k := ⟨x.toInt.toNat, by omega⟩
  have hx : x = Int32.ofNat k := Int32.toInt_inj.mp (by rw [hk, Int32.toInt_ofNat_small (by omega)])
  rw [hx]
  exact t ⟨k, by omega⟩
end StrChars
namespace StrChars.Road
open Jvm Sem ClassFile Op Lib Jvm.Stand Jvm.Free Jvm.Free.XT
open Jvm.Lib.Cold (StaticIs)
abbrev ST : String := "java/lang/String"
/-- every table word that New1's law asks, flat -/
abbrev words : List Jvm.Cond := [.code New1.yN New1.yB 2 none, .initialized ST, .methodLink ST 27 New4.yN, .instanceMethod New4.yN,
  .code New4.yN New4.yB 6 none, .fieldLink ST 38 ST "COMPACT_STRINGS" "Z", .laysFinal ST ST "value" "[B", .fieldLink ST 9 ST "value" "[B", .laysFinal ST ST "coder" "B", .fieldLink ST 15 ST "coder" "B",
  .methodLink ST 1 Lib.objectInit, .instanceMethod Lib.objectInit, .code Lib.objectInit ⟨#[0xb1]⟩ 1 none, .methodLink ST 177 Cmp3.yN, .static Cmp3.yN, .methodLink ST 47 CodL.yN, .static CodL.yN,
  .code Cmp3.yN Cmp3.yB 6 (some (.array .byte)), .initialized U16, .arrayClass .byte, .methodLink U16 115 Cmp5.yN, .static Cmp5.yN, .code Cmp5.yN Cmp5.yB 7 (some .int), .code CodL.yN CodL.yB 2 (some .byte)]
theorem tab_of {a : Array Value} {s : State} (h : ∀ w ∈ words, w.before a s = true) : New1.tab.before a s = true := by
  have h5 : Cmp5.tab.before a s = true := unparts (wk h (.code Cmp5.yN Cmp5.yB 7 (some .int))) (wks h (.initialized Cmp5.yN.cls :: Cmp5.site))
  have hc : CodL.tab.before a s = true := unparts (wk h (.code CodL.yN CodL.yB 2 (some .byte))) (wks h (.initialized CodL.yN.cls :: CodL.site))
  have q5 : ∀ w ∈ Cmp5.tab :: words, w.before a s = true := fun w hw => (List.mem_cons.mp hw).elim (fun e => e ▸ h5) (h w)
  have h3 : Cmp3.tab.before a s = true := unparts (wk q5 (.code Cmp3.yN Cmp3.yB 6 (some (.array .byte)))) (wks q5 (.initialized Cmp3.yN.cls :: Cmp3.site))
  have q3 : ∀ w ∈ Cmp3.tab :: CodL.tab :: words, w.before a s = true := fun w hw => (List.mem_cons.mp hw).elim (fun e => e ▸ h3) fun hw => (List.mem_cons.mp hw).elim (fun e => e ▸ hc) (h w)
  have h4 : New4.tab.before a s = true := unparts (wk q3 (.code New4.yN New4.yB 6 none)) (wks q3 (.initialized New4.yN.cls :: New4.site))
  have q4 : ∀ w ∈ New4.tab :: words, w.before a s = true := fun w hw => (List.mem_cons.mp hw).elim (fun e => e ▸ h4) (h w)
  exact unparts (wk q4 (.code New1.yN New1.yB 2 none)) (wks q4 (.initialized New1.yN.cls :: New1.site))
/-- the words ride from the start Z to the walk's own state -/
theorem moved {Z s : State} {a0 args : Array Value} (hZ : Z.Warmed39 s.vm) (hw : ∀ d ∈ words, d.before a0 Z = true) : ∀ d ∈ words, d.before args s = true := fun d hd => by
  have q := hw d hd
  have t : ∀ d ∈ words, d = .arrayClass .byte ∨ (d.onTables && d.keepsFace) = true := by decide +kernel
  rcases t d hd with rfl | t
  · exact RoadKit.mvA hZ q
  · exact RoadKit.mv hZ q t
/-- WHAT COMES BACK, over the tables of the start Z: h the heap at the call, h' behind it -/
def Q (Z : State) (x : Addr) (A : Cell) (h : Heap) (v : Option Value) (h' : Heap) (L : List Loc) : Prop := v = none ∧ (∀ y ∈ L, y.base = x) ∧ RoadKit.Keep h h' [x] ∧ h'.size = h.size + 1 ∧ RoadKit.Exa Z h' x ST ∧ RoadKit.Fld Z h' x ST "value" "[B" (.ref h.size) ∧ RoadKit.Fld Z h' x ST "coder" "B" (.int 0) ∧
  (∃ V : Cell, RoadKit.Arr Z h' h.size V .byte ∧ V.vm = .none ∧ Z.vm.findClass "[B" = some V.cls ∧ V.slots.size = A.slots.size ∧ ∀ j, j < A.slots.size → V.slots[j]? = some (.int (lo8 (cv A j)))) ∧
  ∀ (O n d : String) (w : Value), RoadKit.Fld Z h x O n d w → RoadKit.slotOf Z O n d ≠ RoadKit.slotOf Z ST "value" "[B" → RoadKit.slotOf Z O n d ≠ RoadKit.slotOf Z ST "coder" "B" → RoadKit.Fld Z h' x O n d w
/-- **new String(chars) AT A CALL, IN THE ROAD'S FORM**: for specialBack behind newO: x the fresh String, b the char[] with the cell A -/
theorem back {p : Program} {l : Launch} {e : Env} {R : Room} {s : State} {args : Array Value} {below : List Frame} {len W : Nat} {Z : State} {a0 : Array Value} {h : Heap} (hZ : Z.Warmed39 s.vm) (hw : ∀ d ∈ words, d.before a0 Z = true) {kI : Nat} (wi : (Jvm.Cond.instantiable ST kI).before a0 Z = true)
    {x b : Addr} {A : Cell} {z : Int32} {v0 c0 : Value} (E : RoadKit.Exa Z h x ST) (V : RoadKit.Fld Z h x ST "value" "[B" v0) (C : RoadKit.Fld Z h x ST "coder" "B" c0) (K : RoadKit.Arr Z h b A .char) (hty : Typed .char A) (S : RoadKit.Sta Z h ST "COMPACT_STRINGS" "Z" (.int z)) (hz : ¬ z = 0)
    (l0 : 0 < A.slots.size) (l2 : A.slots.size ≤ 536870912) (hp : ∀ i, i < A.slots.size → ¬ 255 < cv A i) (hfr : 4 ≤ R.frames) (hlo : W + 65 ≤ R.locals) :
    Back l R p e below s args New1.yN len W (fun P a => a = #[.ref x, .ref b] ∧ P.U.heap = h ∧ P.cells + 1 ≤ R.cells ∧ P.slots + A.slots.size ≤ R.slots)
      (fun P _ v B => ∃ L, Q Z x A h v B.U.heap L ∧ B.locs = P.locs ++ L ∧ B.cells = P.cells + 1 ∧ B.slots = P.slots + A.slots.size) := by
  intro m meth c P g ig mk a X hg hsize hdg hW hn hp'
  obtain ⟨rfl, rfl, r1, r2⟩ := hp'
  have al : Z.vm.Alike P.U.vm := hZ.alike.trans X.warmed.alike
  obtain ⟨D, cfV, kV, iV, fV, hD, gV, stV, knV, obV, asV, slV⟩ := id V
  obtain ⟨D', cfC, kC, iC, fC, hD', gC, stC, -, -, asC, slC⟩ := id C
  cases hD.symm.trans hD'
  obtain ⟨D2, kD, e1, e2, e3, e4, e5⟩ := id E
  cases hD.symm.trans e1
  obtain ⟨c2, k2, i1, i2, i3, -⟩ := Cond.instantiable_spec wi
  cases e2.symm.trans i1
  cases e3.symm.trans i2
  obtain ⟨kU, u1, u2⟩ := al.2.2 _ _ e3
  have hB : Blank ST x D P.U := ⟨hD, ⟨knV, fun q hq => by rw [hq] at obV; cases obV⟩, by rw [al.findClass]; exact e2, kU, u1, by rw [u2]; exact i3, by rw [u2]; exact e5 i3⟩
  have F1 : Found ST "value" "[B" fV P.U := ⟨SBG.found_only al ⟨cfV, kV, iV, gV⟩, stV⟩
  have F2 : Found ST "coder" "B" fC P.U := ⟨SBG.found_only al ⟨cfC, kC, iC, gC⟩, stC⟩
  have hA : Ch b A P.U := ⟨⟨K.1, State.isArrayOf_alike al K.2.1, K.2.2, by omega⟩, hty⟩
  have hS : StaticIs P.U ST "COMPACT_STRINGS" "Z" (.int z) := by
    obtain ⟨cfS, iS, kS, fS, st, cS, t1, t2, t3, t4, t5, t6, t7⟩ := S
    exact StaticIs.there (s := { Z with heap := P.U.heap }) ⟨cfS, iS, kS, fS, st, cS, t1, t2, t3, t4, t5, (fun q => by rw [q] at t6; cases t6), t7⟩ al rfl
  obtain ⟨v, B, X', ⟨⟨hv, E', V', q1, q2, q3, q4, q5, q6, q7, q8, q9, q10, q11⟩, hl, hc, hs⟩, st⟩ := New1.pays x D fV fC b A z (tab_of (moved hZ hw)) hfr hlo m meth c P g ig mk _ X hg hsize hdg hW hn ⟨r1, r2, rfl, hB, F1, F2, hA, hS, hz, l0, l2, hp⟩
  have al' : Z.vm.Alike B.U.vm := hZ.alike.trans X'.warmed.alike
  have hsz : E'.slots.size = D.slots.size := by
    obtain ⟨-, -, -, kB, w1, w2, w3⟩ := q1
    obtain ⟨kB', y1, y2⟩ := al'.2.2 _ _ e3
    rw [q2.2.1] at w1
    cases w1.symm.trans y1
    rw [w3, e5 i3, y2]
  refine ⟨v, B, X', ⟨_, ⟨hv, ?_, ⟨by omega, fun y cy hy hn' => q10 y cy (by simpa using hn') hy, fun y cy hy => ?_⟩, q11, ⟨E', _, q1.1, by rw [q2.2.1]; exact e2, by rw [q2.2.1]; exact e3, by rw [q2.1]; exact obV, fun _ => by rw [hsz]; exact e5 i3⟩,
    ⟨E', cfV, kV, iV, fV, q1.1, gV, stV, by rw [q2.1]; exact knV, by rw [q2.1]; exact obV, by rw [q2.2.1]; exact asV, q3⟩, ⟨E', cfC, kC, iC, fC, q1.1, gC, stC, by rw [q2.1]; exact knV, by rw [q2.1]; exact obV, by rw [q2.2.1]; exact asC, q4⟩,
    ⟨V', ⟨q5.1, State.isArrayOf_alike al'.symm q5.2.1, q5.2.2.1⟩, q6, by rw [← al'.findClass]; exact q7, q8, fun j hj => by have := q9 j hj; rwa [Nat.zero_add] at this⟩, fun O n d w F n1 n2 => ?_⟩, hl, hc, hs⟩, st⟩
  · intro y hy
    simp only [List.mem_cons, List.not_mem_nil, or_false] at hy
    rcases hy with rfl | rfl <;> rfl
  · by_cases q : y = x
    · subst q
      cases hD.symm.trans hy
      exact ⟨E', q1.1, q2.2.1, q2.1, hsz⟩
    · exact ⟨cy, q10 y cy q hy, rfl, rfl, rfl⟩
  · obtain ⟨D3, cf, k, i, f, g1, g2, g3, g4, g5, g6, g7⟩ := F
    cases hD.symm.trans g1
    simp only [RoadKit.slotOf, g2, gV, gC, Option.map_some, Option.getD_some] at n1 n2
    exact ⟨E', cf, k, i, f, q1.1, g2, g3, by rw [q2.1]; exact g4, by rw [q2.1]; exact g5, by rw [q2.2.1]; exact g6, by rw [q2.2.2 f.slot (by simp [n1, n2])]; exact g7⟩
end StrChars.Road
namespace StrChars.Road
open Jvm Sem ClassFile Op Lib Jvm.Stand Jvm.Free Jvm.Free.XT
/-- WHAT COMES BACK, the byte[] as a list of values -/
def QA (Z : State) (x : Addr) (zn : Int32) (cs : List Int32) (h : Heap) (v : Option Value) (h' : Heap) (L : List Loc) : Prop := v = none ∧ (∀ y ∈ L, y.base = x) ∧ RoadKit.Keep h h' [x] ∧ h'.size = h.size + 1 ∧ RoadKit.Exa Z h' x ST ∧ RoadKit.Fld Z h' x ST "value" "[B" (.ref h.size) ∧ RoadKit.Fld Z h' x ST "coder" "B" (.int 0) ∧
  (∃ kb, Z.vm.findClass "[B" = some kb ∧ RoadKit.Arv Z h' h.size kb .byte zn (cs.map fun c => .int (lo8 c)) (.int 0)) ∧
  ∀ (O n d : String) (w : Value), RoadKit.Fld Z h x O n d w → RoadKit.slotOf Z O n d ≠ RoadKit.slotOf Z ST "value" "[B" → RoadKit.slotOf Z O n d ≠ RoadKit.slotOf Z ST "coder" "B" → RoadKit.Fld Z h' x O n d w
/-- **new String(chars) AT A CALL, THE ARRAYS AS LISTS**: the char[] at b holds cs, not empty, no char above 255 -/
theorem backArv {p : Program} {l : Launch} {e : Env} {R : Room} {s : State} {args : Array Value} {below : List Frame} {len W : Nat} {Z : State} {a0 : Array Value} {h : Heap} (hZ : Z.Warmed39 s.vm) (hw : ∀ d ∈ words, d.before a0 Z = true) {kI : Nat} (wi : (Jvm.Cond.instantiable ST kI).before a0 Z = true)
    {x b : Addr} {k : ClassId} {zn z : Int32} {cs : List Int32} {dv v0 c0 : Value} (E : RoadKit.Exa Z h x ST) (V : RoadKit.Fld Z h x ST "value" "[B" v0) (C : RoadKit.Fld Z h x ST "coder" "B" c0) (K : RoadKit.Arv Z h b k .char zn (cs.map Value.int) dv) (S : RoadKit.Sta Z h ST "COMPACT_STRINGS" "Z" (.int z)) (hz : ¬ z = 0)
    (hlen : zn.toNatClampNeg = cs.length) (h0 : 0 < cs.length) (hbig : cs.length ≤ 536870912) (hall : ∀ c ∈ cs, ¬ 255 < c) (hfr : 4 ≤ R.frames) (hlo : W + 65 ≤ R.locals) :
    Back l R p e below s args New1.yN len W (fun P a => a = #[.ref x, .ref b] ∧ P.U.heap = h ∧ P.cells + 1 ≤ R.cells ∧ P.slots + cs.length ≤ R.slots)
      (fun P _ v B => ∃ L, QA Z x zn cs h v B.U.heap L ∧ B.locs = P.locs ++ L ∧ B.cells = P.cells + 1 ∧ B.slots = P.slots + cs.length) := by
  obtain ⟨A, K1, K2, K3, K4, K5, K6⟩ := K
  have e : A.slots.size = cs.length := K3.trans hlen
  have hat : ∀ (i : Nat) (hi : i < cs.length), A.slots[i]? = some (.int cs[i]) := fun i hi => by rw [K5 i (by omega)]; simp [List.getD_eq_getElem?_getD, hi]
  have hcv : ∀ (i : Nat) (hi : i < cs.length), cv A i = cs[i] := fun i hi => by unfold cv; rw [hat i hi]
  have hty : Typed .char A := fun i v hv => by
    have hi : i < A.slots.size := (Array.getElem?_eq_some_iff.mp hv).1
    have q := K5 i hi
    rw [hv] at q
    rw [Option.some.inj q]
    exact K6 i hi
  refine Back.mono (back hZ hw wi E V C K1 hty S hz (by omega) (by omega) (fun i hi => by rw [hcv i (by omega)]; exact hall _ (List.getElem_mem _)) hfr hlo) (fun P a hp => ⟨hp.1, hp.2.1, hp.2.2.1, by rw [e]; exact hp.2.2.2⟩) (fun P a v B hp hq => ?_)
  obtain ⟨L, ⟨q1, q2, q3, q4, q5, q6, q7, ⟨V', v1, v2, v3, v4, v5⟩, q9⟩, hl, hc, hs⟩ := hq
  refine ⟨L, ⟨q1, q2, q3, q4, q5, q6, q7, ⟨V'.cls, v3, V', v1, rfl, by rw [v4, e, hlen], K4, fun i hi => ?_, fun i hi => ?_⟩, q9⟩, hl, hc, by rw [hs, e]⟩
  · have hi' : i < cs.length := by omega
    rw [v5 i (by omega), hcv i hi']; simp [List.getD_eq_getElem?_getD, hi']
  · have hi' : i < cs.length := by omega
    simp only [List.getD_eq_getElem?_getD, List.getElem?_map, List.getElem?_eq_getElem hi', Option.map_some, Option.getD_some]
    exact fits_lo8 _
end StrChars.Road
namespace StrChars.Road
open Jvm Sem ClassFile Op Lib Jvm.Stand Jvm.Free Jvm.Free.XT
/-- WHAT COMES BACK, in the writer's own shape -/
def QV (Z : State) (x : Addr) (N : Int32) (bs : List Int32) (h : Heap) (n0 : Nat) (v : Option Value) (h' : Heap) (L : List Loc) : Prop := v = none ∧ RoadKit.Fr n0 L ∧ RoadKit.Keep h h' [x] ∧ RoadKit.Exa Z h' x ST ∧ RoadKit.Fld Z h' x ST "coder" "B" (.int 0) ∧
  ∃ (t : Addr) (kb : ClassId), n0 ≤ t ∧ h.size ≤ t ∧ ¬ t = x ∧ RoadKit.Fld Z h' x ST "value" "[B" (.ref t) ∧ RoadKit.Arv Z h' t kb .byte N (bs.map Value.int) (.int 0)
/-- **new String(chars) AT A CALL, FOR THE WRITER**: a char[] of n known ints, each 0 to 255 -/
theorem backV {p : Program} {l : Launch} {e : Env} {R : Room} {s : State} {args : Array Value} {below : List Frame} {len W : Nat} {Z : State} {a0 : Array Value} {h : Heap} (hZ : Z.Warmed39 s.vm) (hw : ∀ d ∈ words, d.before a0 Z = true) {kI : Nat} (wi : (Jvm.Cond.instantiable ST kI).before a0 Z = true)
    {x b : Addr} {kC : ClassId} {cs bs : List Int32} {d v0 c0 : Value} {z N : Int32} {n n0 : Nat} (hx0 : n0 ≤ x) (hh0 : n0 ≤ h.size) (E : RoadKit.Exa Z h x ST) (V : RoadKit.Fld Z h x ST "value" "[B" v0) (C : RoadKit.Fld Z h x ST "coder" "B" c0) (K : RoadKit.Arv Z h b kC .char N (cs.map Value.int) d) (S : RoadKit.Sta Z h ST "COMPACT_STRINGS" "Z" (.int z)) (hz : ¬ z = 0)
    (hn : cs.length = n) (hN : N = Int32.ofNat n) (l0 : 0 < n) (l2 : n ≤ 4000) (hp : ∀ c ∈ cs, ¬ c < 0 ∧ ¬ (255 : Int32) < c) (hb : bs = cs.map (fun c => c.toInt8.toInt32)) (hfr : 4 ≤ R.frames) (hlo : W + 65 ≤ R.locals) :
    Back l R p e below s args (⟨"java/lang/String", "<init>", "([C)V"⟩ : MethodName) len W (fun P a => a = #[.ref x, .ref b] ∧ P.U.heap = h ∧ P.cells + 1 ≤ R.cells ∧ P.slots + n ≤ R.slots)
      (fun P _ v B => ∃ L, QV Z x N bs h n0 v B.U.heap L ∧ B.locs = P.locs ++ L ∧ B.cells = P.cells + 1 ∧ B.slots = P.slots + n) := by
  subst hn hN hb
  refine Back.mono (backArv hZ hw wi E V C K S hz (n32 (by omega)) l0 (by omega) (fun c hc => (hp c hc).2) hfr hlo) (fun P a hp => hp) (fun P a v B hp hq => ?_)
  obtain ⟨L, ⟨q1, q2, q3, q4, q5, q6, q7, ⟨kb, v1, v2⟩, q9⟩, hl, hc, hs⟩ := hq
  exact ⟨L, ⟨q1, fun y hy => by rw [q2 y hy]; exact hx0, q3, q5, q7, h.size, kb, hh0, Nat.le_refl _, Nat.ne_of_gt E.lt, q6, by rw [List.map_map]; exact v2⟩, hl, hc, hs⟩
end StrChars.Road
namespace StrChars
open Jvm Sem ClassFile Op Lib Jvm.Stand Jvm.Free.XT Jvm.Free.ALB Jvm.Free.JM Jvm.Free
open Jvm.Lib.Cold (StaticIs)
def hi8 (x : Int32) : Int32 := lo8 (x >>> ((8 : Int32) &&& 31))
/-- what StringUTF16.getChar makes of two bytes -/
def pairCh (u v : Int32) : Int32 := (((u &&& 255) <<< ((0 : Int32) &&& 31)) ||| ((v &&& 255) <<< ((8 : Int32) &&& 31))).toUInt32.toUInt16.toUInt32.toInt32
theorem lo8_and (x : Int32) : (lo8 x &&& 255).toBitVec.toNat = x.toBitVec.toNat % 256 := by
  have h : (lo8 x).toBitVec = (x.toBitVec.signExtend 8).signExtend 32 := by rw [lo8, Int8.toBitVec_toInt32, Int32.toBitVec_toInt8]
  rw [Int32.toBitVec_and, BitVec.toNat_and, h]
  have e : ((x.toBitVec.signExtend 8).signExtend 32).toNat % 256 = x.toBitVec.toNat % 256 := by
    rw [BitVec.toNat_signExtend]
    have hlt := x.toBitVec.isLt
    simp only [BitVec.toNat_setWidth, BitVec.toNat_signExtend]
    split <;> split <;> omega
  rw [← e]
  exact Nat.and_two_pow_sub_one_eq_mod _ 8
theorem pair_says {c : Int32} (h0 : ¬ c < 0) (h1 : ¬ 65535 < c) : pairCh (lo8 c) (hi8 c) = c := by
  rw [Int32.lt_iff_toInt_lt] at h0 h1
  have e0 : (0 : Int32).toInt = 0 := rfl
  have e1 : (65535 : Int32).toInt = 65535 := rfl
  have hc : c.toInt = c.toBitVec.toNat := by
    have := c.toBitVec.isLt
    have e : c.toInt = c.toBitVec.toInt := rfl
    rw [e] at h0 h1
    rw [e]
    rw [BitVec.toInt_eq_toNat_cond] at h0 h1 ⊢
    split at h0 <;> split <;> omega
  have hn : c.toBitVec.toNat < 65536 := by omega
  have a1 := lo8_and c
  have a2 : (hi8 c &&& 255).toBitVec.toNat = c.toBitVec.toNat / 256 := by
    rw [hi8, lo8_and]
    have e : ((8 : Int32) &&& 31) = 8 := by decide
    rw [e, Int32.toBitVec_shiftRight]
    have e2 : ((8 : Int32).toBitVec.smod 32) = 8#32 := by decide
    rw [e2, BitVec.sshiftRight_eq', BitVec.toNat_sshiftRight_of_msb_false (by rw [BitVec.msb_eq_false_iff_two_mul_lt]; omega)]
    show c.toBitVec.toNat >>> 8 % 256 = _
    rw [Nat.shiftRight_eq_div_pow]
    omega
  unfold pairCh
  apply Int32.toBitVec_inj.mp
  apply BitVec.eq_of_toNat_eq
  have f0 : ((0 : Int32) &&& 31) = 0 := by decide
  have f8 : ((8 : Int32) &&& 31) = 8 := by decide
  rw [f0, f8]
  have g : (((lo8 c &&& 255) <<< (0 : Int32)) ||| ((hi8 c &&& 255) <<< (8 : Int32))).toBitVec.toNat = c.toBitVec.toNat := by
    rw [Int32.toBitVec_or, Int32.toBitVec_shiftLeft, Int32.toBitVec_shiftLeft]
    have s0 : ((0 : Int32).toBitVec.smod 32) = 0#32 := by decide
    have s8 : ((8 : Int32).toBitVec.smod 32) = 8#32 := by decide
    rw [s0, s8, BitVec.toNat_or]
    simp only [BitVec.shiftLeft_eq', BitVec.toNat_shiftLeft, a1, a2]
    show (c.toBitVec.toNat % 256) <<< 0 % 2 ^ 32 ||| (c.toBitVec.toNat / 256) <<< 8 % 2 ^ 32 = _
    rw [Nat.shiftLeft_zero, Nat.mod_eq_of_lt (show c.toBitVec.toNat % 256 < 2 ^ 32 by omega), Nat.mod_eq_of_lt (show (c.toBitVec.toNat / 256) <<< 8 < 2 ^ 32 by rw [Nat.shiftLeft_eq]; omega), Nat.or_comm, ← Nat.shiftLeft_add_eq_or_of_lt (by omega), Nat.shiftLeft_eq]
    omega
  show BitVec.toNat (((((lo8 c &&& 255) <<< (0 : Int32)) ||| ((hi8 c &&& 255) <<< (8 : Int32))).toBitVec.setWidth 16).setWidth 32) = _
  rw [BitVec.toNat_setWidth, BitVec.toNat_setWidth, g]
  omega
end StrChars
namespace StrChars
open Jvm Sem ClassFile Op Lib Jvm.Stand Jvm.Free.XT Jvm.Free.ALB Jvm.Free.JM Jvm.Free
open Jvm.Lib.Cold (StaticIs)
/-- charAt's cast of a byte read back -/
def chr8 (u : Int32) : Int32 := (u &&& 255).toUInt32.toUInt16.toUInt32.toInt32
theorem chr8_lo8 {c : Int32} (h0 : ¬ c < 0) (h1 : ¬ 255 < c) : chr8 (lo8 c) = c := by
  have t : ∀ k : Fin 256, (Int32.ofNat k.val).toUInt32.toUInt16.toUInt32.toInt32 = Int32.ofNat k.val := by decide +kernel
  unfold chr8
  rw [lo8_mask h0 h1]
  rw [Int32.lt_iff_toInt_lt] at h0 h1
  have e0 : (0 : Int32).toInt = 0 := rfl
  have e1 : (255 : Int32).toInt = 255 := rfl
  obtain ⟨k, hk⟩ : ∃ k : Nat, c.toInt = k := ⟨c.toInt.toNat, by omega⟩
  have hx : c = Int32.ofNat k := Int32.toInt_inj.mp (by rw [hk, Int32.toInt_ofNat_small (by omega)])
  rw [hx]
  exact t ⟨k, by omega⟩
theorem narrow_ch {c : Int32} (h0 : ¬ c < 0) (h1 : ¬ 65535 < c) : narrow .char (.int c) = .int c := by
  have q : narrow .char (.int (pairCh (lo8 c) (hi8 c))) = .int (pairCh (lo8 c) (hi8 c)) := narrow_c _
  rwa [pair_says h0 h1] at q
/-- the array's cell V codes the n chars f 0 .. f (n - 1) by the coder cd, as the JDK does: coder 1 just where some char is above 255 -/
def Cod (cd : Int32) (n : Nat) (f : Nat → Int32) (V : Cell) : Prop := (cd = 0 ∧ V.slots.size = n ∧ ∀ j, j < n → V.slots[j]? = some (.int (lo8 (f j))) ∧ ¬ 255 < f j) ∨ (cd = 1 ∧ V.slots.size = 2 * n ∧ (∀ j, j < n → V.slots[2 * j]? = some (.int (lo8 (f j))) ∧ V.slots[2 * j + 1]? = some (.int (hi8 (f j)))) ∧ ∃ j, j < n ∧ 255 < f j)
theorem Cod.cd {cd : Int32} {n : Nat} {f : Nat → Int32} {V : Cell} (h : Cod cd n f V) : cd = 0 ∨ cd = 1 := h.imp (fun q => q.1) fun q => q.1
/-- **x is a String of the n chars f 0 .. f (n - 1)**, Latin-1 or UTF-16; its array at t has the cell V -/
def Txt (x t : Addr) (V : Cell) (cd : Int32) (n : Nat) (f : Nat → Int32) (U : State) : Prop := Exact "java/lang/String" x U ∧ Has x "java/lang/String" "value" "[B" (.ref t) U ∧ Has x "java/lang/String" "coder" "B" (.int cd) U ∧ XT.Arr .byte t V U ∧ Cod cd n f V ∧ ∀ j, j < n → ¬ f j < 0 ∧ ¬ 65535 < f j
theorem Txt.mv {x t : Addr} {V : Cell} {cd : Int32} {n : Nat} {f : Nat → Int32} {U U' : State} (h : Txt x t V cd n f U) (hal : U.vm.Alike U'.vm) (hh : U'.heap = U.heap) : Txt x t V cd n f U' := ⟨h.1.mv hal hh, h.2.1.mv hal hh, h.2.2.1.mv hal hh, h.2.2.2.1.mv hal hh, h.2.2.2.2⟩
namespace IsL
def yN : MethodName := ⟨"java/lang/String", "isLatin1", "()Z"⟩
abbrev yB : ByteArray := jdk_42_method_154_code
theorem d0 : decode yB 0 = .ok (.getstatic 38, 3) := by decide +kernel
theorem d3 : decode yB 3 = .ok (.ifCond (.eq) 14, 3) := by decide +kernel
theorem d6 : decode yB 6 = .ok (.aload_n 0, 1) := by decide +kernel
theorem d7 : decode yB 7 = .ok (.getfield 15, 3) := by decide +kernel
theorem d10 : decode yB 10 = .ok (.ifCond (.ne) 7, 3) := by decide +kernel
theorem d13 : decode yB 13 = .ok (.iconst 1, 1) := by decide +kernel
theorem d14 : decode yB 14 = .ok (.goto 4, 3) := by decide +kernel
theorem d17 : decode yB 17 = .ok (.iconst 0, 1) := by decide +kernel
theorem d18 : decode yB 18 = .ok (.ireturn, 1) := by decide +kernel
def site : List Cond := [.fieldLink "java/lang/String" 38 "java/lang/String" "COMPACT_STRINGS" "Z", .fieldLink "java/lang/String" 15 "java/lang/String" "coder" "B"]
def tab : Cond := tabOf yN yB 1 (some .boolean) site
def P (x : Addr) (cd z : Int32) (args : Array Value) (s : State) : Prop := args = #[.ref x] ∧ Has x "java/lang/String" "coder" "B" (.int cd) s ∧ (cd = 0 ∨ cd = 1) ∧ StaticIs s "java/lang/String" "COMPACT_STRINGS" "Z" (.int z) ∧ ¬ z = 0
def E (cd : Int32) (r : Option Value) (s u : State) : Prop := XT.PureE (some (.int (1 - cd))) r s u
theorem law (l : Launch) (x : Addr) (cd z : Int32) : Law l yN 1 0 0 0 yB 1 (some .boolean) site (P x cd z) (E cd) [] 0 0 := by
  refine Law.of_walk (plainFor_of_name (by decide +kernel)) (by decide +kernel) (by decide +kernel) (by decide) (fun _ _ h => by rw [h.1]; rfl) (fun _ U U' hal hh h => ⟨h.1, h.2.1.mv hal hh, h.2.2.1, h.2.2.2.1.there hal hh, h.2.2.2.2⟩) (fun r U U' V V' h1 hal h2 h => XT.PureE.mv r U U' V V' h1 hal h2 h) ?_
  intro p e s m args below meth c s₁ X0 hexec hbytes hml hret hlk hnm hown hh0 W hP
  obtain ⟨rfl, hx, hc, s1, hz⟩ := hP
  have c1 : Steps p.tables e below (s₁.setTop (entryFrame m #[.ref x] 1)) (s₁.setTop (mkF m 0 #[.val (.ref x)] [])) := entry rfl
  obtain ⟨T2, X2, q2, st2⟩ := X0.sget hexec hown (wk W (.fieldLink "java/lang/String" 38 "java/lang/String" "COMPACT_STRINGS" "Z")) s1 (fun _ _ h => by rw [hh0]; exact h) (g := (mkF m 0 #[.val (.ref x)] [])) rfl (hb hbytes d0)
  have hh2 := q2.trans hh0
  have c3 : Steps p.tables e below (s₁.setTop (entryFrame m #[.ref x] 1)) (T2.setTop (mkF m 7 #[.val (.ref x)] [.ref x])) := (c1.trans (st2 _ (Steps.refl _))).trans (by
    refine XS.ifNo X2.here hexec rfl (hb hbytes d3) rfl (i0_eq_f hz) ?_
    refine XS.aloadN X2.here hexec rfl (hb hbytes d6) rfl rfl ?_
    exact Steps.refl _)
  obtain ⟨T4, X4, q4, st4⟩ := X2.hget hexec hown (wk W (.fieldLink "java/lang/String" 15 "java/lang/String" "coder" "B")) (hx.mv X2.warmed.alike hh2) (g := (mkF m 7 #[.val (.ref x)] [.ref x])) rfl (rest := []) rfl (hb hbytes d7)
  have c5 : Steps p.tables e below (s₁.setTop (entryFrame m #[.ref x] 1)) (T4.setTop (mkF m 10 #[.val (.ref x)] [.int cd])) := c3.trans (st4 _ (Steps.refl _))
  have c6 : Steps p.tables e below (s₁.setTop (entryFrame m #[.ref x] 1)) (T4.setTop (mkF m 18 #[.val (.ref x)] [.int (1 - cd)])) := by
    rcases hc with rfl | rfl
    · exact c5.trans (by
        refine XS.ifNo X4.here hexec rfl (hb hbytes d10) rfl (i0_ne_f rfl) ?_
        refine iconstV X4.here hexec rfl 1 (hb hbytes d13) (by decide) ?_
        refine XS.goto X4.here hexec rfl (pc0 := 14) rfl (hb hbytes d14) (by decide) rfl ?_
        exact Steps.refl _)
    · exact c5.trans (by
        refine XS.ifYes X4.here hexec rfl (pc0 := 10) rfl (hb hbytes d10) rfl (i0_ne_t (by decide)) (by decide) rfl ?_
        refine iconstV X4.here hexec rfl 0 (hb hbytes d17) (by decide) ?_
        exact Steps.refl _)
  exact ⟨T4, some (.int (1 - cd)), _, _, _, X4, rfl, rfl, rfl, (fun h => by cases h), ⟨rfl, q4.trans hh2⟩, fun fs hl => c6.trans (X4.ireturnOut hexec hret (by rcases hc with rfl | rfl <;> rfl) (Or.inr (Or.inl rfl)) (hb hbytes d18) hl)⟩
end IsL
namespace LChA
def yN : MethodName := ⟨"java/lang/StringLatin1", "charAt", "([BI)C"⟩
abbrev yB : ByteArray := jdk_43_method_2_code
theorem d0 : decode yB 0 = .ok (.iload_n 1, 1) := by decide +kernel
theorem d1 : decode yB 1 = .ok (.aload_n 0, 1) := by decide +kernel
theorem d2 : decode yB 2 = .ok (.arraylength, 1) := by decide +kernel
theorem d3 : decode yB 3 = .ok (.invokestatic 9, 3) := by decide +kernel
theorem d6 : decode yB 6 = .ok (.aload_n 0, 1) := by decide +kernel
theorem d7 : decode yB 7 = .ok (.iload_n 1, 1) := by decide +kernel
theorem d8 : decode yB 8 = .ok (.baload, 1) := by decide +kernel
theorem d9 : decode yB 9 = .ok (.sipush 255, 3) := by decide +kernel
theorem d12 : decode yB 12 = .ok (.iand, 1) := by decide +kernel
theorem d13 : decode yB 13 = .ok (.i2c, 1) := by decide +kernel
theorem d14 : decode yB 14 = .ok (.ireturn, 1) := by decide +kernel
def site : List Cond := [JO.Str_checkIndex.tab] ++ staticW "java/lang/StringLatin1" 9 JO.Str_checkIndex.yN
def tab : Cond := tabOf yN yB 2 (some .char) site
def P (t : Addr) (V : Cell) (i : Nat) (u : Int32) (fm : Value) (args : Array Value) (s : State) : Prop := args = #[.ref t, .int (Int32.ofNat i)] ∧ XT.Arr .byte t V s ∧ V.slots[i]? = some (.int u) ∧ (StaticIs s "jdk/internal/util/Preconditions" "SIOOBE_FORMATTER" "Ljava/util/function/BiFunction;" fm ∧ fm.isRef = true)
def E (u : Int32) (r : Option Value) (s w : State) : Prop := XT.PureE (some (.int (chr8 u))) r s w
theorem law (l : Launch) (t : Addr) (V : Cell) (i : Nat) (u : Int32) (fm : Value) : Law l yN 2 2 2 27 yB 2 (some .char) site (P t V i u fm) (E u) [] 0 0 := by
  refine Law.of_walk (plainFor_of_name (by decide +kernel)) (by decide +kernel) (by decide +kernel) (by decide) (fun _ _ h => by rw [h.1]; rfl) (fun _ U U' hal hh h => ⟨h.1, h.2.1.mv hal hh, h.2.2.1, h.2.2.2.1.there hal hh, h.2.2.2.2⟩) (fun r U U' V V' h1 hal h2 h => XT.PureE.mv r U U' V V' h1 hal h2 h) ?_
  intro p e s m args below meth c s₁ X0 hexec hbytes hml hret hlk hnm hown hh0 W hP
  obtain ⟨rfl, hV, hu, s1, rf⟩ := hP
  have v31 := hV.2.2.2
  have hi : i < V.slots.size := (Array.getElem?_eq_some_iff.mp hu).1
  have c1 : Steps p.tables e below (s₁.setTop (entryFrame m #[.ref t, .int (Int32.ofNat i)] 2)) (s₁.setTop (mkF m 0 #[.val (.ref t), .val (.int (Int32.ofNat i))] [])) := entry rfl
  have c2 : Steps p.tables e below (s₁.setTop (entryFrame m #[.ref t, .int (Int32.ofNat i)] 2)) (s₁.setTop (mkF m 3 #[.val (.ref t), .val (.int (Int32.ofNat i))] [.int (Int32.ofNat V.slots.size), .int (Int32.ofNat i)])) := c1.trans (by
    refine XS.iloadN X0.here hexec rfl (hb hbytes d0) rfl ?_
    refine XS.aloadN X0.here hexec rfl (hb hbytes d1) rfl rfl ?_
    refine X0.alen hexec (hV.mv X0.warmed.alike hh0) rfl rfl (hb hbytes d2) ?_
    exact Steps.refl _)
  obtain ⟨v3, T3, X3, E3, g3⟩ := X0.callS hexec (JO.Str_checkIndex.law l (Int32.ofNat i) (Int32.ofNat V.slots.size) fm) hown (wks W (staticW "java/lang/StringLatin1" 9 JO.Str_checkIndex.yN)) (wk W JO.Str_checkIndex.tab) (W := 0) (Nat.le_of_ble_eq_true rfl) (Nat.le_of_ble_eq_true rfl) (Nat.le_refl _) (Nat.le_refl _) (g := (mkF m 3 #[.val (.ref t), .val (.int (Int32.ofNat i))] [.int (Int32.ofNat V.slots.size), .int (Int32.ofNat i)])) rfl (by rw [hml]; rfl) c2 (argsL := [.int (Int32.ofNat i), .int (Int32.ofNat V.slots.size)]) (rest := []) rfl rfl (by show 2 * 0 + 0 ≤ _; decide) (hb hbytes d3) (⟨rfl, rf, s1.there X0.warmed.alike hh0, Int32.ofNat_not_neg (by omega), lt32 v31 hi⟩)
  obtain ⟨rfl, q3⟩ := E3
  have hh3 := q3.trans hh0
  have c4 : Steps p.tables e below (s₁.setTop (entryFrame m #[.ref t, .int (Int32.ofNat i)] 2)) (T3.setTop (mkF m 14 #[.val (.ref t), .val (.int (Int32.ofNat i))] [.int (chr8 u)])) := Steps.trans g3 (by
    refine XS.aloadN X3.here hexec rfl (hb hbytes d6) rfl rfl ?_
    refine XS.iloadN X3.here hexec rfl (hb hbytes d7) rfl ?_
    refine X3.aget hexec (hV.mv X3.warmed.alike hh3) rfl hu rfl rfl (hb hbytes d8) ?_
    refine sipushV X3.here hexec rfl 255 (hb hbytes d9) (by decide) ?_
    refine XS.iand X3.here hexec rfl (hb hbytes d12) rfl ?_
    refine i2c X3.here hexec rfl (hb hbytes d13) rfl ?_
    exact Steps.refl _)
  exact ⟨T3, some (.int (chr8 u)), _, _, _, X3, rfl, rfl, rfl, (fun h => by cases h), ⟨rfl, hh3⟩, fun fs hl => c4.trans (X3.ireturnOut hexec hret (narrow_c _) (Or.inr (Or.inr (Or.inr (Or.inl rfl)))) (hb hbytes d14) hl)⟩
end LChA
end StrChars
namespace StrChars.Road
open Jvm Sem ClassFile Op Lib Jvm.Stand Jvm.Free Jvm.Free.XT
open Jvm.Lib.Cold (StaticIs)
theorem consq {a : Array Value} {s : State} {c : Jvm.Cond} {L : List Jvm.Cond} (h0 : c.before a s = true) (h : ∀ w ∈ L, w.before a s = true) : ∀ w ∈ c :: L, w.before a s = true := fun w hw => (List.mem_cons.mp hw).elim (fun e => e ▸ h0) (h w)
/-- the bytes of the chars cs, low before high -/
def wideBytes : List Int32 → List Value
  | [] => []
  | c :: cs => .int (lo8 c) :: .int (hi8 c) :: wideBytes cs
theorem wide_lo (d : Value) : ∀ (cs : List Int32) (j : Nat), j < cs.length → (wideBytes cs).getD (2 * j) d = .int (lo8 (cs.getD j 0))
  | [], j, h => absurd h (Nat.not_lt_zero j)
  | c :: cs, 0, _ => rfl
  | c :: cs, j + 1, h => by
    have q := wide_lo d cs j (by simpa using h)
    rw [show 2 * (j + 1) = 2 * j + 1 + 1 from by omega]
    simpa [wideBytes] using q
theorem wide_hi (d : Value) : ∀ (cs : List Int32) (j : Nat), j < cs.length → (wideBytes cs).getD (2 * j + 1) d = .int (hi8 (cs.getD j 0))
  | [], j, h => absurd h (Nat.not_lt_zero j)
  | c :: cs, 0, _ => rfl
  | c :: cs, j + 1, h => by
    have q := wide_hi d cs j (by simpa using h)
    rw [show 2 * (j + 1) + 1 = 2 * j + 1 + 1 + 1 from by omega]
    simpa [wideBytes] using q
theorem low_at (d : Value) (cs : List Int32) (j : Nat) (h : j < cs.length) : (cs.map fun c => Value.int (lo8 c)).getD j d = .int (lo8 (cs.getD j 0)) := by
  simp [List.getD_eq_getElem?_getD, h]
/-- an array of N2 bytes vs codes the chars cs by the coder cd -/
def CodA (cs : List Int32) (cd N2 : Int32) (vs : List Value) : Prop := (cd = 0 ∧ N2 = Int32.ofNat cs.length ∧ vs = (cs.map fun c => Value.int (lo8 c)) ∧ ∀ c ∈ cs, ¬ 255 < c) ∨ (cd = 1 ∧ N2 = Int32.ofNat (2 * cs.length) ∧ vs = wideBytes cs ∧ ∃ c ∈ cs, 255 < c)
theorem CodA.cod {cs : List Int32} {cd N2 : Int32} {vs : List Value} {V : Cell} (h : CodA cs cd N2 vs) (hn : 2 * cs.length < 2 ^ 31) (hs : V.slots.size = N2.toNatClampNeg) (hv : RoadKit.Has V vs (.int 0)) : Cod cd cs.length (fun j => cs.getD j 0) V := by
  rcases h with ⟨rfl, rfl, rfl, h⟩ | ⟨rfl, rfl, rfl, c, hc, hw⟩
  · rw [n32 (by omega)] at hs
    exact Or.inl ⟨rfl, hs, fun j hj => ⟨by rw [hv j (by omega), low_at _ _ _ hj], by
      have e : cs.getD j 0 = cs[j] := by simp [List.getD_eq_getElem?_getD, hj]
      show ¬ 255 < cs.getD j 0
      rw [e]; exact h _ (List.getElem_mem _)⟩⟩
  · rw [n32 (by omega)] at hs
    obtain ⟨j, hj, rfl⟩ := List.getElem_of_mem hc
    exact Or.inr ⟨rfl, hs, fun j hj => ⟨by rw [hv _ (by omega), wide_lo _ _ _ hj], by rw [hv _ (by omega), wide_hi _ _ _ hj]⟩, j, hj, by
      have e : cs.getD j 0 = cs[j] := by simp [List.getD_eq_getElem?_getD, hj]
      show 255 < cs.getD j 0
      rw [e]; exact hw⟩
/-- an object of exactly java/lang/String, its two fields found: as the laws ask it -/
theorem strObj {Z U : State} {a0 : Array Value} {kI : Nat} (wi : (Jvm.Cond.instantiable ST kI).before a0 Z = true) (al : Z.vm.Alike U.vm) {x : Addr} {v0 c0 : Value} (E : RoadKit.Exa Z U.heap x ST) (V : RoadKit.Fld Z U.heap x ST "value" "[B" v0) (C : RoadKit.Fld Z U.heap x ST "coder" "B" c0) :
    ∃ (D : Cell) (fV fC : Field), Blank ST x D U ∧ Found ST "value" "[B" fV U ∧ Found ST "coder" "B" fC U ∧ D.slots[fV.slot]? = some v0 ∧ D.slots[fC.slot]? = some c0 ∧ RoadKit.slotOf Z ST "value" "[B" = fV.slot ∧ RoadKit.slotOf Z ST "coder" "B" = fC.slot := by
  obtain ⟨D, cfV, kV, iV, fV, hD, gV, stV, knV, obV, asV, slV⟩ := V
  obtain ⟨D', cfC, kC, iC, fC, hD', gC, stC, -, -, asC, slC⟩ := C
  cases hD.symm.trans hD'
  obtain ⟨D2, kD, e1, e2, e3, e4, e5⟩ := E
  cases hD.symm.trans e1
  obtain ⟨c2, k2, i1, i2, i3, -⟩ := Cond.instantiable_spec wi
  cases e2.symm.trans i1
  cases e3.symm.trans i2
  obtain ⟨kU, u1, u2⟩ := al.2.2 _ _ e3
  exact ⟨D, fV, fC, ⟨hD, ⟨knV, fun q hq => by rw [hq] at obV; cases obV⟩, by rw [al.findClass]; exact e2, kU, u1, by rw [u2]; exact i3, by rw [u2]; exact e5 i3⟩, ⟨SBG.found_only al ⟨cfV, kV, iV, gV⟩, stV⟩, ⟨SBG.found_only al ⟨cfC, kC, iC, gC⟩, stC⟩, slV, slC, by simp [RoadKit.slotOf, gV], by simp [RoadKit.slotOf, gC]⟩
theorem sta_is {Z U : State} (al : Z.vm.Alike U.vm) {C n d : String} {v : Value} (S : RoadKit.Sta Z U.heap C n d v) : StaticIs U C n d v := by
  obtain ⟨cfS, iS, kS, fS, st, cS, t1, t2, t3, t4, t5, t6, t7⟩ := S
  exact StaticIs.there (s := { Z with heap := U.heap }) ⟨cfS, iS, kS, fS, st, cS, t1, t2, t3, t4, t5, (fun q => by rw [q] at t6; cases t6), t7⟩ al rfl
end StrChars.Road
namespace StrChars
open Jvm Sem ClassFile Op Lib Jvm.Stand Jvm.Free.XT Jvm.Free.ALB Jvm.Free.JM Jvm.Free
open Jvm.Lib.Cold (StaticIs)
/-- what place i of a byte[]'s cell holds -/
def yv (A : Cell) (i : Nat) : Int32 := match A.slots[i]? with | some (.int x) => x | _ => 0
theorem yv_get {a : Addr} {A : Cell} {U : State} (h : XT.Arr .byte a A U) (ht : Typed .byte A) {i : Nat} (hi : i < A.slots.size) : A.slots[i]? = some (.int (yv A i)) := by
  have e := Array.getElem?_eq_getElem hi
  have f := ht i _ e
  unfold yv; rw [e]
  generalize A.slots[i] = v at f
  cases v <;> simp [fits] at f ⊢
/-- the two arrays are equal, place for place -/
def EqC (A B : Cell) : Prop := A.slots.size = B.slots.size ∧ ∀ i, i < A.slots.size → yv A i = yv B i
/-- a boolean that says whether p -/
def Says01 (q : Prop) (r : Option Value) (s u : State) : Prop := ∃ v : Int32, r = some (.int v) ∧ u.heap = s.heap ∧ ((v = 1 ∧ q) ∨ (v = 0 ∧ ¬ q))
theorem Says01.mv {q : Prop} : ∀ r (U U' V V' : State), U'.heap = U.heap → V.vm.Alike V'.vm → V'.heap = V.heap → Says01 q r U V → Says01 q r U' V' :=
  fun r U U' V V' h1 _ h2 ⟨v, a, b, c⟩ => ⟨v, a, by rw [h1, h2]; exact b, c⟩
namespace LEq
def yN : MethodName := ⟨"java/lang/StringLatin1", "equals", "([B[B)Z"⟩
abbrev yB : ByteArray := jdk_43_method_13_code
theorem d0 : decode yB 0 = .ok (.aload_n 0, 1) := by decide +kernel
theorem d1 : decode yB 1 = .ok (.arraylength, 1) := by decide +kernel
theorem d2 : decode yB 2 = .ok (.aload_n 1, 1) := by decide +kernel
theorem d3 : decode yB 3 = .ok (.arraylength, 1) := by decide +kernel
theorem d4 : decode yB 4 = .ok (.if_icmp (.ne) 30, 3) := by decide +kernel
theorem d7 : decode yB 7 = .ok (.iconst 0, 1) := by decide +kernel
theorem d8 : decode yB 8 = .ok (.istore_n 2, 1) := by decide +kernel
theorem d9 : decode yB 9 = .ok (.iload_n 2, 1) := by decide +kernel
theorem d10 : decode yB 10 = .ok (.aload_n 0, 1) := by decide +kernel
theorem d11 : decode yB 11 = .ok (.arraylength, 1) := by decide +kernel
theorem d12 : decode yB 12 = .ok (.if_icmp (.ge) 20, 3) := by decide +kernel
theorem d15 : decode yB 15 = .ok (.aload_n 0, 1) := by decide +kernel
theorem d16 : decode yB 16 = .ok (.iload_n 2, 1) := by decide +kernel
theorem d17 : decode yB 17 = .ok (.baload, 1) := by decide +kernel
theorem d18 : decode yB 18 = .ok (.aload_n 1, 1) := by decide +kernel
theorem d19 : decode yB 19 = .ok (.iload_n 2, 1) := by decide +kernel
theorem d20 : decode yB 20 = .ok (.baload, 1) := by decide +kernel
theorem d21 : decode yB 21 = .ok (.if_icmp (.eq) 5, 3) := by decide +kernel
theorem d24 : decode yB 24 = .ok (.iconst 0, 1) := by decide +kernel
theorem d25 : decode yB 25 = .ok (.ireturn, 1) := by decide +kernel
theorem d26 : decode yB 26 = .ok (.iinc 2 1, 3) := by decide +kernel
theorem d29 : decode yB 29 = .ok (.goto (-20), 3) := by decide +kernel
theorem d32 : decode yB 32 = .ok (.iconst 1, 1) := by decide +kernel
theorem d33 : decode yB 33 = .ok (.ireturn, 1) := by decide +kernel
theorem d34 : decode yB 34 = .ok (.iconst 0, 1) := by decide +kernel
theorem d35 : decode yB 35 = .ok (.ireturn, 1) := by decide +kernel
def site : List Cond := []
def tab : Cond := tabOf yN yB 3 (some .boolean) site
def P (a : Addr) (A : Cell) (b : Addr) (B : Cell) (args : Array Value) (s : State) : Prop := args = #[.ref a, .ref b] ∧ XT.Arr .byte a A s ∧ Typed .byte A ∧ XT.Arr .byte b B s ∧ Typed .byte B
/-- whether two byte[] are equal, place for place -/
theorem law (l : Launch) (a : Addr) (A : Cell) (b : Addr) (B : Cell) : Law l yN 2 2 0 0 yB 3 (some .boolean) site (P a A b B) (Says01 (EqC A B)) [] 0 0 := by
  refine Law.of_walk (plainFor_of_name (by decide +kernel)) (by decide +kernel) (by decide +kernel) (by decide) (fun _ _ h => by rw [h.1]; rfl) (fun _ U U' hal hh h => ⟨h.1, h.2.1.mv hal hh, h.2.2.1, h.2.2.2.1.mv hal hh, h.2.2.2.2⟩) (fun r U U' V V' h1 hal h2 h => Says01.mv r U U' V V' h1 hal h2 h) ?_
  intro p e s m args below meth c s₁ X0 hexec hbytes hml hret hlk hnm hown hh0 W hP
  obtain ⟨rfl, hA, tA, hB, tB⟩ := hP
  have a31 := hA.2.2.2
  have b31 := hB.2.2.2
  have hA0 := hA.mv X0.warmed.alike hh0
  have hB0 := hB.mv X0.warmed.alike hh0
  have c1 : Steps p.tables e below (s₁.setTop (entryFrame m #[.ref a, .ref b] 3)) (s₁.setTop (mkF m 0 #[.val (.ref a), .val (.ref b), .unset] [])) := entry rfl
  have c2 : Steps p.tables e below (s₁.setTop (entryFrame m #[.ref a, .ref b] 3)) (s₁.setTop (mkF m 4 #[.val (.ref a), .val (.ref b), .unset] [.int (Int32.ofNat B.slots.size), .int (Int32.ofNat A.slots.size)])) := c1.trans (by
    refine XS.aloadN X0.here hexec rfl (hb hbytes d0) rfl rfl ?_
    refine X0.alen hexec hA0 rfl rfl (hb hbytes d1) ?_
    refine XS.aloadN X0.here hexec rfl (hb hbytes d2) rfl rfl ?_
    refine X0.alen hexec hB0 rfl rfl (hb hbytes d3) ?_
    exact Steps.refl _)
  by_cases hs : A.slots.size = B.slots.size
  · have c3 : Steps p.tables e below (s₁.setTop (entryFrame m #[.ref a, .ref b] 3)) (s₁.setTop (mkF m 9 #[.val (.ref a), .val (.ref b), .val (.int 0)] [])) := c2.trans (by
      refine XS.icmpNo X0.here hexec rfl (hb hbytes d4) rfl (ii_ne_f (by rw [hs])) ?_
      refine iconstV X0.here hexec rfl 0 (hb hbytes d7) (by decide) ?_
      refine XS.istoreN X0.here hexec rfl (hb hbytes d8) rfl rfl ?_
      exact Steps.refl _)
    have loop : ∀ (r i : Nat), i + r = A.slots.size → (∀ j, j < i → yv A j = yv B j) → Steps p.tables e below (s₁.setTop (entryFrame m #[.ref a, .ref b] 3)) (s₁.setTop (mkF m 9 #[.val (.ref a), .val (.ref b), .val (.int (Int32.ofNat i))] [])) → ∃ (pc : Nat) (Ls : Array Slot) (v : Int32), (pc = 25 ∨ pc = 33) ∧ ((v = 1 ∧ EqC A B) ∨ (v = 0 ∧ ¬ EqC A B)) ∧ Steps p.tables e below (s₁.setTop (entryFrame m #[.ref a, .ref b] 3)) (s₁.setTop (mkF m pc Ls [.int v])) := by
      intro r
      induction r with
      | zero =>
        intro i hi he cl
        exact ⟨33, _, 1, Or.inr rfl, Or.inl ⟨rfl, hs, fun j hj => he j (by omega)⟩, cl.trans (by
          refine XS.iloadN X0.here hexec rfl (hb hbytes d9) rfl ?_
          refine XS.aloadN X0.here hexec rfl (hb hbytes d10) rfl rfl ?_
          refine X0.alen hexec hA0 rfl rfl (hb hbytes d11) ?_
          refine XS.icmpYes X0.here hexec rfl (pc0 := 12) rfl (hb hbytes d12) rfl (ii_ge_t (nlt32 (by omega) (by omega))) (by decide) rfl ?_
          refine iconstV X0.here hexec rfl 1 (hb hbytes d32) (by decide) ?_
          exact Steps.refl _)⟩
      | succ r ih =>
        intro i hi he cl
        have c4 : Steps p.tables e below (s₁.setTop (entryFrame m #[.ref a, .ref b] 3)) (s₁.setTop (mkF m 21 #[.val (.ref a), .val (.ref b), .val (.int (Int32.ofNat i))] [.int (yv B i), .int (yv A i)])) := cl.trans (by
          refine XS.iloadN X0.here hexec rfl (hb hbytes d9) rfl ?_
          refine XS.aloadN X0.here hexec rfl (hb hbytes d10) rfl rfl ?_
          refine X0.alen hexec hA0 rfl rfl (hb hbytes d11) ?_
          refine XS.icmpNo X0.here hexec rfl (hb hbytes d12) rfl (ii_ge_f (lt32 (by omega) (by omega))) ?_
          refine XS.aloadN X0.here hexec rfl (hb hbytes d15) rfl rfl ?_
          refine XS.iloadN X0.here hexec rfl (hb hbytes d16) rfl ?_
          refine X0.aget hexec hA0 rfl (yv_get hA tA (i := i) (by omega)) rfl rfl (hb hbytes d17) ?_
          refine XS.aloadN X0.here hexec rfl (hb hbytes d18) rfl rfl ?_
          refine XS.iloadN X0.here hexec rfl (hb hbytes d19) rfl ?_
          refine X0.aget hexec hB0 rfl (yv_get hB tB (i := i) (by omega)) rfl rfl (hb hbytes d20) ?_
          exact Steps.refl _)
        by_cases hv : yv A i = yv B i
        · have c5 : Steps p.tables e below (s₁.setTop (entryFrame m #[.ref a, .ref b] 3)) (s₁.setTop (mkF m 9 #[.val (.ref a), .val (.ref b), .val (.int (Int32.ofNat i + 1))] [])) := c4.trans (by
            refine XS.icmpYes X0.here hexec rfl (pc0 := 21) rfl (hb hbytes d21) rfl (ii_eq_t hv) (by decide) rfl ?_
            refine iincV X0.here hexec rfl 1 (hb hbytes d26) (by decide) rfl rfl ?_
            refine XS.goto X0.here hexec rfl (pc0 := 29) rfl (hb hbytes d29) (by decide) rfl ?_
            exact Steps.refl _)
          rw [succ32] at c5
          exact ih (i + 1) (by omega) (fun j hj => by
            by_cases e : j = i
            · rw [e]; exact hv
            · exact he j (by omega)) c5
        · exact ⟨25, _, 0, Or.inl rfl, Or.inr ⟨rfl, fun q => hv (q.2 i (by omega))⟩, c4.trans (by
            refine XS.icmpNo X0.here hexec rfl (hb hbytes d21) rfl (ii_eq_f hv) ?_
            refine iconstV X0.here hexec rfl 0 (hb hbytes d24) (by decide) ?_
            exact Steps.refl _)⟩
    obtain ⟨pc, Ls, v, hpc, hv, cz⟩ := loop A.slots.size 0 (by omega) (fun j hj => absurd hj (Nat.not_lt_zero j)) c3
    have nv : narrow .boolean (.int v) = .int v := by rcases hv with ⟨rfl, -⟩ | ⟨rfl, -⟩ <;> rfl
    rcases hpc with rfl | rfl
    · exact ⟨s₁, some (.int v), _, _, _, X0, rfl, rfl, rfl, (fun h => by cases h), ⟨v, rfl, hh0, hv⟩, fun fs hl => cz.trans (X0.ireturnOut hexec hret nv (Or.inr (Or.inl rfl)) (hb hbytes d25) hl)⟩
    · exact ⟨s₁, some (.int v), _, _, _, X0, rfl, rfl, rfl, (fun h => by cases h), ⟨v, rfl, hh0, hv⟩, fun fs hl => cz.trans (X0.ireturnOut hexec hret nv (Or.inr (Or.inl rfl)) (hb hbytes d33) hl)⟩
  · have c3 : Steps p.tables e below (s₁.setTop (entryFrame m #[.ref a, .ref b] 3)) (s₁.setTop (mkF m 35 #[.val (.ref a), .val (.ref b), .unset] [.int 0])) := c2.trans (by
      refine XS.icmpYes X0.here hexec rfl (pc0 := 4) rfl (hb hbytes d4) rfl (ii_ne_t (ne32 a31 b31 hs)) (by decide) rfl ?_
      refine iconstV X0.here hexec rfl 0 (hb hbytes d34) (by decide) ?_
      exact Steps.refl _)
    exact ⟨s₁, some (.int 0), _, _, _, X0, rfl, rfl, rfl, (fun h => by cases h), ⟨0, rfl, hh0, Or.inr ⟨rfl, fun q => hs q.1⟩⟩, fun fs hl => c3.trans (X0.ireturnOut hexec hret rfl (Or.inr (Or.inl rfl)) (hb hbytes d35) hl)⟩
end LEq
theorem Cod.ty {cd : Int32} {n : Nat} {f : Nat → Int32} {V : Cell} (h : Cod cd n f V) : Typed .byte V := fun i v hv => by
  have hi : i < V.slots.size := (Array.getElem?_eq_some_iff.mp hv).1
  rcases h with ⟨-, k1, k2⟩ | ⟨-, k1, k2, -⟩
  · rw [(k2 i (by omega)).1] at hv; cases hv; exact fits_lo8 _
  · rcases Nat.mod_two_eq_zero_or_one i with e | e
    · obtain ⟨j, rfl⟩ : ∃ j, i = 2 * j := ⟨i / 2, by omega⟩
      rw [(k2 j (by omega)).1] at hv; cases hv; exact fits_lo8 _
    · obtain ⟨j, rfl⟩ : ∃ j, i = 2 * j + 1 := ⟨i / 2, by omega⟩
      rw [(k2 j (by omega)).2] at hv; cases hv; exact fits_lo8 _
/-- the same text -/
def SameT (n : Nat) (f : Nat → Int32) (k : Nat) (g : Nat → Int32) : Prop := n = k ∧ ∀ j, j < n → f j = g j
theorem lo8_inj {x y : Int32} (h0 : ¬ x < 0) (h1 : ¬ 255 < x) (k0 : ¬ y < 0) (k1 : ¬ 255 < y) (h : lo8 x = lo8 y) : x = y := by
  rw [← lo8_mask h0 h1, ← lo8_mask k0 k1, h]
/-- arrays coded by one coder are equal just where the texts are -/
theorem Cod.eqv {cd : Int32} {n k : Nat} {f g : Nat → Int32} {V V' : Cell} (h : Cod cd n f V) (h' : Cod cd k g V') (hf : ∀ j, j < n → ¬ f j < 0 ∧ ¬ 65535 < f j) (hg : ∀ j, j < k → ¬ g j < 0 ∧ ¬ 65535 < g j) : EqC V V' ↔ SameT n f k g := by
  have yvv : ∀ {W : Cell} {i : Nat} {x : Int32}, W.slots[i]? = some (.int x) → yv W i = x := fun q => by unfold yv; rw [q]
  rcases h with ⟨rfl, k1, k2⟩ | ⟨rfl, k1, k2, -⟩
  · rcases h' with ⟨-, m1, m2⟩ | ⟨e, -⟩
    · constructor
      · rintro ⟨e1, e2⟩
        refine ⟨by omega, fun j hj => ?_⟩
        have q := e2 j (by omega)
        rw [yvv (k2 j hj).1, yvv (m2 j (by omega)).1] at q
        exact lo8_inj (hf j hj).1 (k2 j hj).2 (hg j (by omega)).1 (m2 j (by omega)).2 q
      · rintro ⟨rfl, e2⟩
        refine ⟨by omega, fun j hj => ?_⟩
        rw [yvv (k2 j (by omega)).1, yvv (m2 j (by omega)).1, e2 j (by omega)]
    · exact absurd e (by decide)
  · rcases h' with ⟨e, -⟩ | ⟨-, m1, m2, -⟩
    · exact absurd e (by decide)
    · constructor
      · rintro ⟨e1, e2⟩
        refine ⟨by omega, fun j hj => ?_⟩
        have q1 := e2 (2 * j) (by omega)
        have q2 := e2 (2 * j + 1) (by omega)
        rw [yvv (k2 j hj).1, yvv (m2 j (by omega)).1] at q1
        rw [yvv (k2 j hj).2, yvv (m2 j (by omega)).2] at q2
        rw [← pair_says (hf j hj).1 (hf j hj).2, ← pair_says (hg j (by omega)).1 (hg j (by omega)).2, q1, q2]
      · rintro ⟨rfl, e2⟩
        refine ⟨by omega, fun i hi => ?_⟩
        rcases Nat.mod_two_eq_zero_or_one i with e | e
        · obtain ⟨j, rfl⟩ : ∃ j, i = 2 * j := ⟨i / 2, by omega⟩
          rw [yvv (k2 j (by omega)).1, yvv (m2 j (by omega)).1, e2 j (by omega)]
        · obtain ⟨j, rfl⟩ : ∃ j, i = 2 * j + 1 := ⟨i / 2, by omega⟩
          rw [yvv (k2 j (by omega)).2, yvv (m2 j (by omega)).2, e2 j (by omega)]
/-- two codings differ: so do the texts -/
theorem Cod.dif {cd cd' : Int32} {n k : Nat} {f g : Nat → Int32} {V V' : Cell} (h : Cod cd n f V) (h' : Cod cd' k g V') (hne : ¬ cd = cd') : ¬ SameT n f k g := by
  rintro ⟨rfl, e⟩
  rcases h with ⟨rfl, -, k2⟩ | ⟨rfl, -, -, j, hj, hw⟩
  · rcases h' with ⟨rfl, -⟩ | ⟨-, -, -, j, hj, hw⟩
    · exact hne rfl
    · exact (k2 j hj).2 (by rw [e j hj]; exact hw)
  · rcases h' with ⟨-, -, m2⟩ | ⟨rfl, -⟩
    · exact (m2 j hj).2 (by rw [← e j hj]; exact hw)
    · exact hne rfl
/-- an object of exactly C is an instance of C -/
theorem cinst {p : Program} {l : Launch} {e : Env} {R : Room} {s : State} {m : MethodId} {args : Array Value} {below : List Frame} {meth : Method} {c : Code} {T : State} {locs : List Loc} {cells slots : Nat} (X : Stand p l e R s m args below meth c T locs cells slots) (hexec : p.tables.exec = Jvm.exec) {own C : String} {index : Nat} (hown : s.vm.findClass own = some m.cls) (hlink : (Cond.classLink own index C).before args s = true) {a : Addr} (hE : Exact C a T)
    {g : JFrame} (hg : g.method = m) {rest : List Value} (hstack : g.stack = .ref a :: rest) (hdg : decode c.code g.pc = .ok (.instanceof index, 3)) :
    ∃ T', Stand p l e R s m args below meth c T' locs cells slots ∧ T'.heap = T.heap ∧ ∀ target, Steps p.tables e below (T'.setTop { g with pc := g.pc + 3, stack := .int 1 :: rest }) target → Steps p.tables e below (T.setTop g) target := by
  obtain ⟨cB, h1, D, h2, h3, h4⟩ := hE
  have h1' : s.vm.findClass C = some cB := by rw [← X.warmed.alike.findClass]; exact h1
  obtain ⟨vm', X', st⟩ := X.instanceofYes hexec hown hlink h2 h4 h1' (by rw [h3]; exact Jvm.Free.SB.assignable_self _ _) hg hstack hdg
  exact ⟨_, X', rfl, st⟩
theorem cself {p : Program} {l : Launch} {e : Env} {R : Room} {s : State} {m : MethodId} {args : Array Value} {below : List Frame} {meth : Method} {c : Code} {T : State} {locs : List Loc} {cells slots : Nat} (X : Stand p l e R s m args below meth c T locs cells slots) (hexec : p.tables.exec = Jvm.exec) {own C : String} {index : Nat} (hown : s.vm.findClass own = some m.cls) (hlink : (Cond.classLink own index C).before args s = true) {a : Addr} (hE : Exact C a T)
    {g : JFrame} (hg : g.method = m) {rest : List Value} (hstack : g.stack = .ref a :: rest) (hdg : decode c.code g.pc = .ok (.checkcast index, 3)) :
    ∃ T', Stand p l e R s m args below meth c T' locs cells slots ∧ T'.heap = T.heap ∧ ∀ target, Steps p.tables e below (T'.setTop { g with pc := g.pc + 3, stack := .ref a :: rest }) target → Steps p.tables e below (T.setTop g) target := by
  obtain ⟨cB, h1, D, h2, h3, h4⟩ := hE
  have h1' : s.vm.findClass C = some cB := by rw [← X.warmed.alike.findClass]; exact h1
  obtain ⟨vm', X', st⟩ := X.checkcastYes hexec hown hlink h2 h4 h1' (by rw [h3]; exact Jvm.Free.SB.assignable_self _ _) hg hstack hdg
  exact ⟨_, X', rfl, fun t h => st t (by rw [← hstack] at h; exact h)⟩
namespace SEq
def yN : MethodName := ⟨"java/lang/String", "equals", "(Ljava/lang/Object;)Z"⟩
abbrev yB : ByteArray := jdk_42_method_66_code
theorem d0 : decode yB 0 = .ok (.aload_n 0, 1) := by decide +kernel
theorem d1 : decode yB 1 = .ok (.aload_n 1, 1) := by decide +kernel
theorem d2 : decode yB 2 = .ok (.if_acmp (.ne) 5, 3) := by decide +kernel
theorem d5 : decode yB 5 = .ok (.iconst 1, 1) := by decide +kernel
theorem d6 : decode yB 6 = .ok (.ireturn, 1) := by decide +kernel
theorem d7 : decode yB 7 = .ok (.aload_n 1, 1) := by decide +kernel
theorem d8 : decode yB 8 = .ok (.instanceof 10, 3) := by decide +kernel
theorem d11 : decode yB 11 = .ok (.ifCond (.eq) 43, 3) := by decide +kernel
theorem d14 : decode yB 14 = .ok (.aload_n 1, 1) := by decide +kernel
theorem d15 : decode yB 15 = .ok (.checkcast 10, 3) := by decide +kernel
theorem d18 : decode yB 18 = .ok (.astore_n 2, 1) := by decide +kernel
theorem d19 : decode yB 19 = .ok (.getstatic 38, 3) := by decide +kernel
theorem d22 : decode yB 22 = .ok (.ifCond (.eq) 14, 3) := by decide +kernel
theorem d25 : decode yB 25 = .ok (.aload_n 0, 1) := by decide +kernel
theorem d26 : decode yB 26 = .ok (.getfield 15, 3) := by decide +kernel
theorem d29 : decode yB 29 = .ok (.aload_n 2, 1) := by decide +kernel
theorem d30 : decode yB 30 = .ok (.getfield 15, 3) := by decide +kernel
theorem d33 : decode yB 33 = .ok (.if_icmp (.ne) 21, 3) := by decide +kernel
theorem d36 : decode yB 36 = .ok (.aload_n 0, 1) := by decide +kernel
theorem d37 : decode yB 37 = .ok (.getfield 9, 3) := by decide +kernel
theorem d40 : decode yB 40 = .ok (.aload_n 2, 1) := by decide +kernel
theorem d41 : decode yB 41 = .ok (.getfield 9, 3) := by decide +kernel
theorem d44 : decode yB 44 = .ok (.invokestatic 541, 3) := by decide +kernel
theorem d47 : decode yB 47 = .ok (.ifCond (.eq) 7, 3) := by decide +kernel
theorem d50 : decode yB 50 = .ok (.iconst 1, 1) := by decide +kernel
theorem d51 : decode yB 51 = .ok (.goto 4, 3) := by decide +kernel
theorem d54 : decode yB 54 = .ok (.iconst 0, 1) := by decide +kernel
theorem d55 : decode yB 55 = .ok (.ireturn, 1) := by decide +kernel
def site : List Cond := [.classLink "java/lang/String" 10 "java/lang/String", .fieldLink "java/lang/String" 38 "java/lang/String" "COMPACT_STRINGS" "Z", .fieldLink "java/lang/String" 15 "java/lang/String" "coder" "B", .fieldLink "java/lang/String" 9 "java/lang/String" "value" "[B", LEq.tab] ++ staticW "java/lang/String" 541 LEq.yN
def tab : Cond := tabOf yN yB 3 (some .boolean) site
def P (x t : Addr) (V : Cell) (cd : Int32) (n : Nat) (f : Nat → Int32) (y t' : Addr) (V' : Cell) (cd' : Int32) (k : Nat) (g : Nat → Int32) (z : Int32) (args : Array Value) (s : State) : Prop := args = #[.ref x, .ref y] ∧ Txt x t V cd n f s ∧ Txt y t' V' cd' k g s ∧ StaticIs s "java/lang/String" "COMPACT_STRINGS" "Z" (.int z) ∧ ¬ z = 0
/-- equals(Object) of two Strings: whether the texts are the same -/
theorem law (l : Launch) (x t : Addr) (V : Cell) (cd : Int32) (n : Nat) (f : Nat → Int32) (y t' : Addr) (V' : Cell) (cd' : Int32) (k : Nat) (g : Nat → Int32) (z : Int32) : Law l yN 2 1 1 14 yB 3 (some .boolean) site (P x t V cd n f y t' V' cd' k g z) (Says01 (SameT n f k g)) [] 0 0 := by
  refine Law.of_walk (plainFor_of_name (by decide +kernel)) (by decide +kernel) (by decide +kernel) (by decide) (fun _ _ h => by rw [h.1]; rfl) (fun _ U U' hal hh h => ⟨h.1, h.2.1.mv hal hh, h.2.2.1.mv hal hh, h.2.2.2.1.there hal hh, h.2.2.2.2⟩) (fun r U U' V V' h1 hal h2 h => Says01.mv r U U' V V' h1 hal h2 h) ?_
  intro p e s m args below meth c s₁ X0 hexec hbytes hml hret hlk hnm hown hh0 W hP
  obtain ⟨rfl, hx, hy, s1, hz⟩ := hP
  have c1 : Steps p.tables e below (s₁.setTop (entryFrame m #[.ref x, .ref y] 3)) (s₁.setTop (mkF m 2 #[.val (.ref x), .val (.ref y), .unset] [.ref y, .ref x])) := Steps.trans (entry rfl) (by
    show Steps p.tables e below (s₁.setTop (mkF m 0 #[.val (.ref x), .val (.ref y), .unset] [])) _
    refine XS.aloadN X0.here hexec rfl (hb hbytes d0) rfl rfl ?_
    refine XS.aloadN X0.here hexec rfl (hb hbytes d1) rfl rfl ?_
    exact Steps.refl _)
  by_cases hxy : x = y
  · have c2 : Steps p.tables e below (s₁.setTop (entryFrame m #[.ref x, .ref y] 3)) (s₁.setTop (mkF m 6 #[.val (.ref x), .val (.ref y), .unset] [.int 1])) := c1.trans (by
      refine acmpNo X0.here hexec rfl (hb hbytes d2) rfl rfl rfl (by simp [acmp, hxy]) ?_
      refine iconstV X0.here hexec rfl 1 (hb hbytes d5) (by decide) ?_
      exact Steps.refl _)
    subst hxy
    have ec : cd = cd' := by
      obtain ⟨D, fd, a1, a2, a3⟩ := hx.2.2.1
      obtain ⟨D', fd', b1, b2, b3⟩ := hy.2.2.1
      cases a1.symm.trans b1
      obtain ⟨q1, q2, q3, q4⟩ := a2.1
      obtain ⟨r1, r2, r3, r4⟩ := b2.1
      cases q4.symm.trans r4
      cases a3.symm.trans b3; rfl
    have et : t = t' := by
      obtain ⟨D, fd, a1, a2, a3⟩ := hx.2.1
      obtain ⟨D', fd', b1, b2, b3⟩ := hy.2.1
      cases a1.symm.trans b1
      obtain ⟨q1, q2, q3, q4⟩ := a2.1
      obtain ⟨r1, r2, r3, r4⟩ := b2.1
      cases q4.symm.trans r4
      cases a3.symm.trans b3; rfl
    subst ec et
    have ev : V = V' := by cases hx.2.2.2.1.1.symm.trans hy.2.2.2.1.1; rfl
    subst ev
    have hs : SameT n f k g := (Cod.eqv hx.2.2.2.2.1 hy.2.2.2.2.1 hx.2.2.2.2.2 hy.2.2.2.2.2).mp ⟨rfl, fun _ _ => rfl⟩
    exact ⟨s₁, some (.int 1), _, _, _, X0, rfl, rfl, rfl, (fun h => by cases h), ⟨1, rfl, hh0, Or.inl ⟨rfl, hs⟩⟩, fun fs hl => c2.trans (X0.ireturnOut hexec hret rfl (Or.inr (Or.inl rfl)) (hb hbytes d6) hl)⟩
  · have c2 : Steps p.tables e below (s₁.setTop (entryFrame m #[.ref x, .ref y] 3)) (s₁.setTop (mkF m 8 #[.val (.ref x), .val (.ref y), .unset] [.ref y])) := c1.trans (by
      refine acmpYes X0.here hexec rfl (pc0 := 2) rfl (hb hbytes d2) rfl rfl rfl (by simp [acmp, hxy]) (by decide) rfl ?_
      refine XS.aloadN X0.here hexec rfl (hb hbytes d7) rfl rfl ?_
      exact Steps.refl _)
    obtain ⟨T3, X3, q3, st3⟩ := cinst X0 hexec hown (wk W (.classLink "java/lang/String" 10 "java/lang/String")) (hy.mv X0.warmed.alike hh0).1 (g := (mkF m 8 #[.val (.ref x), .val (.ref y), .unset] [.ref y])) rfl (rest := []) rfl (hb hbytes d8)
    have hh3 := q3.trans hh0
    have c4 : Steps p.tables e below (s₁.setTop (entryFrame m #[.ref x, .ref y] 3)) (T3.setTop (mkF m 15 #[.val (.ref x), .val (.ref y), .unset] [.ref y])) := (c2.trans (st3 _ (Steps.refl _))).trans (by
      refine XS.ifNo X3.here hexec rfl (hb hbytes d11) rfl (i0_eq_f (by decide)) ?_
      refine XS.aloadN X3.here hexec rfl (hb hbytes d14) rfl rfl ?_
      exact Steps.refl _)
    obtain ⟨T5, X5, q5, st5⟩ := cself X3 hexec hown (wk W (.classLink "java/lang/String" 10 "java/lang/String")) (hy.mv X3.warmed.alike hh3).1 (g := (mkF m 15 #[.val (.ref x), .val (.ref y), .unset] [.ref y])) rfl (rest := []) rfl (hb hbytes d15)
    have hh5 := q5.trans hh3
    have c6 : Steps p.tables e below (s₁.setTop (entryFrame m #[.ref x, .ref y] 3)) (T5.setTop (mkF m 19 #[.val (.ref x), .val (.ref y), .val (.ref y)] [])) := (c4.trans (st5 _ (Steps.refl _))).trans (by
      refine XS.astoreN X5.here hexec rfl (hb hbytes d18) rfl rfl rfl ?_
      exact Steps.refl _)
    obtain ⟨T7, X7, q7, st7⟩ := X5.sget hexec hown (wk W (.fieldLink "java/lang/String" 38 "java/lang/String" "COMPACT_STRINGS" "Z")) s1 (fun _ _ h => by rw [hh5]; exact h) (g := (mkF m 19 #[.val (.ref x), .val (.ref y), .val (.ref y)] [])) rfl (hb hbytes d19)
    have hh7 := q7.trans hh5
    have c8 : Steps p.tables e below (s₁.setTop (entryFrame m #[.ref x, .ref y] 3)) (T7.setTop (mkF m 26 #[.val (.ref x), .val (.ref y), .val (.ref y)] [.ref x])) := (c6.trans (st7 _ (Steps.refl _))).trans (by
      refine XS.ifNo X7.here hexec rfl (hb hbytes d22) rfl (i0_eq_f hz) ?_
      refine XS.aloadN X7.here hexec rfl (hb hbytes d25) rfl rfl ?_
      exact Steps.refl _)
    obtain ⟨T9, X9, q9, st9⟩ := X7.hget hexec hown (wk W (.fieldLink "java/lang/String" 15 "java/lang/String" "coder" "B")) (hx.mv X7.warmed.alike hh7).2.2.1 (g := (mkF m 26 #[.val (.ref x), .val (.ref y), .val (.ref y)] [.ref x])) rfl (rest := []) rfl (hb hbytes d26)
    have hh9 := q9.trans hh7
    have c10 : Steps p.tables e below (s₁.setTop (entryFrame m #[.ref x, .ref y] 3)) (T9.setTop (mkF m 30 #[.val (.ref x), .val (.ref y), .val (.ref y)] [.ref y, .int cd])) := (c8.trans (st9 _ (Steps.refl _))).trans (by
      refine XS.aloadN X9.here hexec rfl (hb hbytes d29) rfl rfl ?_
      exact Steps.refl _)
    obtain ⟨T11, X11, q11, st11⟩ := X9.hget hexec hown (wk W (.fieldLink "java/lang/String" 15 "java/lang/String" "coder" "B")) (hy.mv X9.warmed.alike hh9).2.2.1 (g := (mkF m 30 #[.val (.ref x), .val (.ref y), .val (.ref y)] [.ref y, .int cd])) rfl (rest := [.int cd]) rfl (hb hbytes d30)
    have hh11 := q11.trans hh9
    have c12 : Steps p.tables e below (s₁.setTop (entryFrame m #[.ref x, .ref y] 3)) (T11.setTop (mkF m 33 #[.val (.ref x), .val (.ref y), .val (.ref y)] [.int cd', .int cd])) := c10.trans (st11 _ (Steps.refl _))
    by_cases hcd : cd = cd'
    · subst hcd
      have c13 : Steps p.tables e below (s₁.setTop (entryFrame m #[.ref x, .ref y] 3)) (T11.setTop (mkF m 37 #[.val (.ref x), .val (.ref y), .val (.ref y)] [.ref x])) := c12.trans (by
        refine XS.icmpNo X11.here hexec rfl (hb hbytes d33) rfl (ii_ne_f rfl) ?_
        refine XS.aloadN X11.here hexec rfl (hb hbytes d36) rfl rfl ?_
        exact Steps.refl _)
      obtain ⟨T14, X14, q14, st14⟩ := X11.hget hexec hown (wk W (.fieldLink "java/lang/String" 9 "java/lang/String" "value" "[B")) (hx.mv X11.warmed.alike hh11).2.1 (g := (mkF m 37 #[.val (.ref x), .val (.ref y), .val (.ref y)] [.ref x])) rfl (rest := []) rfl (hb hbytes d37)
      have hh14 := q14.trans hh11
      have c15 : Steps p.tables e below (s₁.setTop (entryFrame m #[.ref x, .ref y] 3)) (T14.setTop (mkF m 41 #[.val (.ref x), .val (.ref y), .val (.ref y)] [.ref y, .ref t])) := (c13.trans (st14 _ (Steps.refl _))).trans (by
        refine XS.aloadN X14.here hexec rfl (hb hbytes d40) rfl rfl ?_
        exact Steps.refl _)
      obtain ⟨T16, X16, q16, st16⟩ := X14.hget hexec hown (wk W (.fieldLink "java/lang/String" 9 "java/lang/String" "value" "[B")) (hy.mv X14.warmed.alike hh14).2.1 (g := (mkF m 41 #[.val (.ref x), .val (.ref y), .val (.ref y)] [.ref y, .ref t])) rfl (rest := [.ref t]) rfl (hb hbytes d41)
      have hh16 := q16.trans hh14
      have c17 : Steps p.tables e below (s₁.setTop (entryFrame m #[.ref x, .ref y] 3)) (T16.setTop (mkF m 44 #[.val (.ref x), .val (.ref y), .val (.ref y)] [.ref t', .ref t])) := c15.trans (st16 _ (Steps.refl _))
      obtain ⟨v18, T18, X18, E18, g18⟩ := X16.callS hexec (LEq.law l t V t' V') hown (wks W (staticW "java/lang/String" 541 LEq.yN)) (wk W LEq.tab) (W := 0) (Nat.le_of_ble_eq_true rfl) (Nat.le_of_ble_eq_true rfl) (Nat.le_refl _) (Nat.le_refl _) (g := (mkF m 44 #[.val (.ref x), .val (.ref y), .val (.ref y)] [.ref t', .ref t])) rfl (by rw [hml]; rfl) c17 (argsL := [.ref t, .ref t']) (rest := []) rfl rfl (by show 2 * 0 + 0 ≤ _; decide) (hb hbytes d44) (⟨rfl, hx.2.2.2.1.mv X16.warmed.alike hh16, hx.2.2.2.2.1.ty, hy.2.2.2.1.mv X16.warmed.alike hh16, hy.2.2.2.2.1.ty⟩)
      obtain ⟨v, rfl, q18, hv⟩ := E18
      have iff := Cod.eqv hx.2.2.2.2.1 hy.2.2.2.2.1 hx.2.2.2.2.2 hy.2.2.2.2.2
      rcases hv with ⟨rfl, he⟩ | ⟨rfl, he⟩
      · have c19 : Steps p.tables e below (s₁.setTop (entryFrame m #[.ref x, .ref y] 3)) (T18.setTop (mkF m 55 #[.val (.ref x), .val (.ref y), .val (.ref y)] [.int 1])) := Steps.trans g18 (by
          refine XS.ifNo X18.here hexec rfl (hb hbytes d47) rfl (i0_eq_f (by decide)) ?_
          refine iconstV X18.here hexec rfl 1 (hb hbytes d50) (by decide) ?_
          refine XS.goto X18.here hexec rfl (pc0 := 51) rfl (hb hbytes d51) (by decide) rfl ?_
          exact Steps.refl _)
        exact ⟨T18, some (.int 1), _, _, _, X18, rfl, rfl, rfl, (fun h => by cases h), ⟨1, rfl, q18.trans hh16, Or.inl ⟨rfl, iff.mp he⟩⟩, fun fs hl => c19.trans (X18.ireturnOut hexec hret rfl (Or.inr (Or.inl rfl)) (hb hbytes d55) hl)⟩
      · have c19 : Steps p.tables e below (s₁.setTop (entryFrame m #[.ref x, .ref y] 3)) (T18.setTop (mkF m 55 #[.val (.ref x), .val (.ref y), .val (.ref y)] [.int 0])) := Steps.trans g18 (by
          refine XS.ifYes X18.here hexec rfl (pc0 := 47) rfl (hb hbytes d47) rfl (i0_eq_t rfl) (by decide) rfl ?_
          refine iconstV X18.here hexec rfl 0 (hb hbytes d54) (by decide) ?_
          exact Steps.refl _)
        exact ⟨T18, some (.int 0), _, _, _, X18, rfl, rfl, rfl, (fun h => by cases h), ⟨0, rfl, q18.trans hh16, Or.inr ⟨rfl, fun q => he (iff.mpr q)⟩⟩, fun fs hl => c19.trans (X18.ireturnOut hexec hret rfl (Or.inr (Or.inl rfl)) (hb hbytes d55) hl)⟩
    · have c13 : Steps p.tables e below (s₁.setTop (entryFrame m #[.ref x, .ref y] 3)) (T11.setTop (mkF m 55 #[.val (.ref x), .val (.ref y), .val (.ref y)] [.int 0])) := c12.trans (by
        refine XS.icmpYes X11.here hexec rfl (pc0 := 33) rfl (hb hbytes d33) rfl (ii_ne_t hcd) (by decide) rfl ?_
        refine iconstV X11.here hexec rfl 0 (hb hbytes d54) (by decide) ?_
        exact Steps.refl _)
      exact ⟨T11, some (.int 0), _, _, _, X11, rfl, rfl, rfl, (fun h => by cases h), ⟨0, rfl, hh11, Or.inr ⟨rfl, Cod.dif hx.2.2.2.2.1 hy.2.2.2.2.1 hcd⟩⟩, fun fs hl => c13.trans (X11.ireturnOut hexec hret rfl (Or.inr (Or.inl rfl)) (hb hbytes d55) hl)⟩
theorem pays {l : Launch} {R : Room} {p : Program} {e : Env} {below : List Frame} {s : State} {sargs : Array Value} {len W : Nat} (x t : Addr) (V : Cell) (cd : Int32) (n : Nat) (f : Nat → Int32) (y t' : Addr) (V' : Cell) (cd' : Int32) (k : Nat) (g : Nat → Int32) (z : Int32) (htab : tab.before sargs s = true) (hfr : 2 ≤ R.frames) (hlo : W + 28 ≤ R.locals) :
    Back l R p e below s sargs yN len W (fun A₁ a₁ => A₁.cells + 0 ≤ R.cells ∧ A₁.slots + 0 ≤ R.slots ∧ P x t V cd n f y t' V' cd' k g z a₁ A₁.U) (fun A₁ _ v₁ B₁ => Says01 (SameT n f k g) v₁ A₁.U B₁.U ∧ B₁.locs = A₁.locs ++ [] ∧ B₁.cells = A₁.cells + 0 ∧ B₁.slots = A₁.slots + 0) :=
  (law l x t V cd n f y t' V' cd' k g z).pays htab hfr (by omega)
end SEq
end StrChars
namespace StrChars.Road
open Jvm Sem ClassFile Op Lib Jvm.Stand Jvm.Free Jvm.Free.XT
open Jvm.Lib.Cold (StaticIs)
/-- the words of String.equals(Object) -/
abbrev wordsEq : List Jvm.Cond := [.code SEq.yN SEq.yB 3 (some .boolean), .initialized ST, .classLink ST 10 ST, .fieldLink ST 38 ST "COMPACT_STRINGS" "Z", .fieldLink ST 15 ST "coder" "B", .fieldLink ST 9 ST "value" "[B", .methodLink ST 541 LEq.yN, .static LEq.yN, .code LEq.yN LEq.yB 3 (some .boolean), .initialized "java/lang/StringLatin1"]
theorem tabEq_of {a : Array Value} {s : State} (h : ∀ w ∈ wordsEq, w.before a s = true) : SEq.tab.before a s = true := by
  have hl : LEq.tab.before a s = true := unparts (wk h (.code LEq.yN LEq.yB 3 (some .boolean))) (wks h (.initialized LEq.yN.cls :: LEq.site))
  have q := consq hl h
  exact unparts (wk q (.code SEq.yN SEq.yB 3 (some .boolean))) (wks q (.initialized SEq.yN.cls :: SEq.site))
theorem movedEq {Z s : State} {a0 args : Array Value} (hZ : Z.Warmed39 s.vm) (hw : ∀ d ∈ wordsEq, d.before a0 Z = true) : ∀ d ∈ wordsEq, d.before args s = true := fun d hd => by
  have t : ∀ d ∈ wordsEq, (d.onTables && d.keepsFace) = true := by decide +kernel
  exact RoadKit.mv hZ (hw d hd) (t d hd)
/-- the road's facts of a String, as the laws ask it -/
theorem txt_of {Z U : State} {a0 : Array Value} {kI : Nat} (wi : (Jvm.Cond.instantiable ST kI).before a0 Z = true) (al : Z.vm.Alike U.vm) {x t : Addr} {kb : ClassId} {cs : List Int32} {cd N2 : Int32} {vs : List Value} (E : RoadKit.Exa Z U.heap x ST) (V : RoadKit.Fld Z U.heap x ST "value" "[B" (.ref t)) (C : RoadKit.Fld Z U.heap x ST "coder" "B" (.int cd)) (K : RoadKit.Arv Z U.heap t kb .byte N2 vs (.int 0)) (hc : CodA cs cd N2 vs) (hb : ∀ c ∈ cs, ¬ c < 0 ∧ ¬ (65535 : Int32) < c) (l2 : cs.length ≤ 4000) :
    ∃ A, Txt x t A cd cs.length (fun j => cs.getD j 0) U := by
  obtain ⟨A, K1, K2, K3, K4, K5, K6⟩ := K
  have hcod := hc.cod (by omega) K3 K5
  obtain ⟨D, fV, fC, hB, F1, F2, g1, g2, -, -⟩ := strObj wi al E V C
  exact ⟨A, ⟨_, hB.2.2.1, D, hB.1, rfl, by cases q : D.vm <;> first | rfl | exact absurd q (hB.2.1.2 _)⟩, Has.of hB F1 g1, Has.of hB F2 g2, ⟨K1.1, State.isArrayOf_alike al K1.2.1, K1.2.2, by rcases hcod with ⟨-, q, -⟩ | ⟨-, q, -⟩ <;> omega⟩, hcod, fun j hj => by
    have e : cs.getD j 0 = cs[j] := by simp [List.getD_eq_getElem?_getD, hj]
    show ¬ cs.getD j 0 < 0 ∧ ¬ 65535 < cs.getD j 0
    rw [e]; exact hb _ (List.getElem_mem _)⟩
theorem same_list (cs ds : List Int32) : SameT cs.length (fun j => cs.getD j 0) ds.length (fun j => ds.getD j 0) ↔ cs = ds := by
  constructor
  · rintro ⟨e, q⟩
    refine List.ext_getElem e fun j h1 h2 => ?_
    have := q j h1
    simpa [List.getD_eq_getElem?_getD, h1, h2] using this
  · rintro rfl
    exact ⟨rfl, fun _ _ => rfl⟩
/-- **equals(Object) OF TWO SUCH STRINGS**: 1 just where the chars are the same -/
theorem eqW {p : Program} {l : Launch} {e : Env} {R : Room} {s : State} {args : Array Value} {below : List Frame} {len W : Nat} {Z : State} {a0 : Array Value} {h : Heap} (hZ : Z.Warmed39 s.vm) (hw : ∀ d ∈ wordsEq, d.before a0 Z = true) {kI : Nat} (wi : (Jvm.Cond.instantiable ST kI).before a0 Z = true)
    {x t : Addr} {kb : ClassId} {cs : List Int32} {cd N2 : Int32} {vs : List Value} (E : RoadKit.Exa Z h x ST) (V : RoadKit.Fld Z h x ST "value" "[B" (.ref t)) (C : RoadKit.Fld Z h x ST "coder" "B" (.int cd)) (K : RoadKit.Arv Z h t kb .byte N2 vs (.int 0)) (hc : CodA cs cd N2 vs) (hb : ∀ c ∈ cs, ¬ c < 0 ∧ ¬ (65535 : Int32) < c) (l2 : cs.length ≤ 4000)
    {y t' : Addr} {kb' : ClassId} {ds : List Int32} {cd' N2' : Int32} {vs' : List Value} (E' : RoadKit.Exa Z h y ST) (V' : RoadKit.Fld Z h y ST "value" "[B" (.ref t')) (C' : RoadKit.Fld Z h y ST "coder" "B" (.int cd')) (K' : RoadKit.Arv Z h t' kb' .byte N2' vs' (.int 0)) (hc' : CodA ds cd' N2' vs') (hb' : ∀ c ∈ ds, ¬ c < 0 ∧ ¬ (65535 : Int32) < c) (l2' : ds.length ≤ 4000)
    {z : Int32} (S : RoadKit.Sta Z h ST "COMPACT_STRINGS" "Z" (.int z)) (hz : ¬ z = 0) (hfr : 2 ≤ R.frames) (hlo : W + 28 ≤ R.locals) :
    Back l R p e below s args (⟨"java/lang/String", "equals", "(Ljava/lang/Object;)Z"⟩ : MethodName) len W (fun P a => a = #[.ref x, .ref y] ∧ P.U.heap = h ∧ P.cells + 0 ≤ R.cells ∧ P.slots + 0 ≤ R.slots)
      (fun P _ v B => ∃ L, (((v = some (.int 1) ∧ cs = ds) ∨ (v = some (.int 0) ∧ ¬ cs = ds)) ∧ L = [] ∧ B.U.heap = h) ∧ B.locs = P.locs ++ L ∧ B.cells = P.cells + 0 ∧ B.slots = P.slots + 0) := by
  intro m meth c P g ig mk a X hg hsize hdg hW hn hp'
  obtain ⟨rfl, rfl, r1, r2⟩ := hp'
  have al : Z.vm.Alike P.U.vm := hZ.alike.trans X.warmed.alike
  obtain ⟨A, hx⟩ := txt_of wi al E V C K hc hb l2
  obtain ⟨A', hy⟩ := txt_of wi al E' V' C' K' hc' hb' l2'
  obtain ⟨v, B, X', ⟨⟨w, hv, hh, hq⟩, hl, hk, hs⟩, st⟩ := SEq.pays x t A cd cs.length (fun j => cs.getD j 0) y t' A' cd' ds.length (fun j => ds.getD j 0) z (tabEq_of (movedEq hZ hw)) hfr hlo m meth c P g ig mk _ X hg hsize hdg hW hn ⟨r1, r2, rfl, hx, hy, sta_is al S, hz⟩
  refine ⟨v, B, X', ⟨[], ⟨?_, rfl, hh⟩, hl, hk, hs⟩, st⟩
  rcases hq with ⟨rfl, q⟩ | ⟨rfl, q⟩
  · exact Or.inl ⟨hv, (same_list cs ds).mp q⟩
  · exact Or.inr ⟨hv, fun e => q ((same_list cs ds).mpr e)⟩
end StrChars.Road
namespace StrChars
open Jvm Sem ClassFile Op Lib Jvm.Stand Jvm.Free.XT Jvm.Free.ALB Jvm.Free.JM Jvm.Free
open Jvm.Lib.Cold (StaticIs)
namespace ChN
def yN : MethodName := ⟨"java/lang/String", "charAt", "(I)C"⟩
abbrev yB : ByteArray := jdk_42_method_56_code
theorem d0 : decode yB 0 = .ok (.aload_n 0, 1) := by decide +kernel
theorem d1 : decode yB 1 = .ok (.invokevirtual 492, 3) := by decide +kernel
theorem d4 : decode yB 4 = .ok (.ifCond (.eq) 12, 3) := by decide +kernel
theorem d7 : decode yB 7 = .ok (.aload_n 0, 1) := by decide +kernel
theorem d8 : decode yB 8 = .ok (.getfield 9, 3) := by decide +kernel
theorem d11 : decode yB 11 = .ok (.iload_n 1, 1) := by decide +kernel
theorem d12 : decode yB 12 = .ok (.invokestatic 495, 3) := by decide +kernel
theorem d15 : decode yB 15 = .ok (.ireturn, 1) := by decide +kernel
def site : List Cond := [.fieldLink "java/lang/String" 9 "java/lang/String" "value" "[B", IsL.tab, LChA.tab] ++ virtW "java/lang/String" 492 "java/lang/String" IsL.yN IsL.yN ++ staticW "java/lang/String" 495 LChA.yN
def tab : Cond := tabOf yN yB 2 (some .char) site
def P (x t : Addr) (V : Cell) (n : Nat) (f : Nat → Int32) (z : Int32) (fm : Value) (i : Nat) (args : Array Value) (s : State) : Prop := args = #[.ref x, .int (Int32.ofNat i)] ∧ Txt x t V 0 n f s ∧ i < n ∧ StaticIs s "java/lang/String" "COMPACT_STRINGS" "Z" (.int z) ∧ ¬ z = 0 ∧ StaticIs s "jdk/internal/util/Preconditions" "SIOOBE_FORMATTER" "Ljava/util/function/BiFunction;" fm ∧ fm.isRef = true
def E (f : Nat → Int32) (i : Nat) (r : Option Value) (s u : State) : Prop := XT.PureE (some (.int (f i))) r s u
/-- charAt(i) of a Latin-1 String of n chars, i < n: f i -/
theorem law (l : Launch) (x t : Addr) (V : Cell) (n : Nat) (f : Nat → Int32) (z : Int32) (fm : Value) (i : Nat) : Law l yN 2 1 3 40 yB 2 (some .char) site (P x t V n f z fm i) (E f i) [] 0 0 := by
  refine Law.of_walk (plainFor_of_name (by decide +kernel)) (by decide +kernel) (by decide +kernel) (by decide) (fun _ _ h => by rw [h.1]; rfl) (fun _ U U' hal hh h => ⟨h.1, h.2.1.mv hal hh, h.2.2.1, h.2.2.2.1.there hal hh, h.2.2.2.2.1, h.2.2.2.2.2.1.there hal hh, h.2.2.2.2.2.2⟩) (fun r U U' V V' h1 hal h2 h => XT.PureE.mv r U U' V V' h1 hal h2 h) ?_
  intro p e s m args below meth c s₁ X0 hexec hbytes hml hret hlk hnm hown hh0 W hP
  obtain ⟨rfl, hx, hi, s1, hz, s3, rf⟩ := hP
  have v31 := hx.2.2.2.1.2.2.2
  have hr := hx.2.2.2.2.2 i hi
  have hx0 := hx.mv X0.warmed.alike hh0
  have c1 : Steps p.tables e below (s₁.setTop (entryFrame m #[.ref x, .int (Int32.ofNat i)] 2)) (s₁.setTop (mkF m 1 #[.val (.ref x), .val (.int (Int32.ofNat i))] [.ref x])) := Steps.trans (entry rfl) (by
    show Steps p.tables e below (s₁.setTop (mkF m 0 #[.val (.ref x), .val (.int (Int32.ofNat i))] [])) _
    refine XS.aloadN X0.here hexec rfl (hb hbytes d0) rfl rfl ?_
    exact Steps.refl _)
  obtain ⟨v2, T2, X2, E2, g2⟩ := X0.callV hexec (IsL.law l x 0 z) hown (wks W (virtW "java/lang/String" 492 "java/lang/String" IsL.yN IsL.yN)) rfl (by decide) (wk W IsL.tab) (W := 0) (Nat.le_of_ble_eq_true rfl) (Nat.le_of_ble_eq_true rfl) (Nat.le_refl _) (Nat.le_refl _) (hx0.1.fc X0.warmed.alike) hx0.1.is (g := (mkF m 1 #[.val (.ref x), .val (.int (Int32.ofNat i))] [.ref x])) rfl (by rw [hml]; rfl) c1 (argsL := []) (rest := []) rfl rfl (by show 2 * 0 + 0 ≤ _; decide) (hb hbytes d1) (⟨rfl, hx0.2.2.1, hx.2.2.2.2.1.cd, s1.there X0.warmed.alike hh0, hz⟩)
  obtain ⟨rfl, q2⟩ := E2
  have hh2 := q2.trans hh0
  have hx2 := hx.mv X2.warmed.alike hh2
  obtain ⟨-, k1, k2⟩ | ⟨k0, -⟩ := hx.2.2.2.2.1
  · have c3 : Steps p.tables e below (s₁.setTop (entryFrame m #[.ref x, .int (Int32.ofNat i)] 2)) (T2.setTop (mkF m 8 #[.val (.ref x), .val (.int (Int32.ofNat i))] [.ref x])) := Steps.trans g2 (by
      refine XS.ifNo X2.here hexec rfl (hb hbytes d4) rfl (i0_eq_f (by decide)) ?_
      refine XS.aloadN X2.here hexec rfl (hb hbytes d7) rfl rfl ?_
      exact Steps.refl _)
    obtain ⟨T4, X4, q4, st4⟩ := X2.hget hexec hown (wk W (.fieldLink "java/lang/String" 9 "java/lang/String" "value" "[B")) hx2.2.1 (g := (mkF m 8 #[.val (.ref x), .val (.int (Int32.ofNat i))] [.ref x])) rfl (rest := []) rfl (hb hbytes d8)
    have hh4 := q4.trans hh2
    have c5 : Steps p.tables e below (s₁.setTop (entryFrame m #[.ref x, .int (Int32.ofNat i)] 2)) (T4.setTop (mkF m 12 #[.val (.ref x), .val (.int (Int32.ofNat i))] [.int (Int32.ofNat i), .ref t])) := (c3.trans (st4 _ (Steps.refl _))).trans (by
      refine XS.iloadN X4.here hexec rfl (hb hbytes d11) rfl ?_
      exact Steps.refl _)
    obtain ⟨v6, T6, X6, E6, g6⟩ := X4.callS hexec (LChA.law l t V i (lo8 (f i)) fm) hown (wks W (staticW "java/lang/String" 495 LChA.yN)) (wk W LChA.tab) (W := 0) (Nat.le_of_ble_eq_true rfl) (Nat.le_of_ble_eq_true rfl) (Nat.le_refl _) (Nat.le_refl _) (g := (mkF m 12 #[.val (.ref x), .val (.int (Int32.ofNat i))] [.int (Int32.ofNat i), .ref t])) rfl (by rw [hml]; rfl) c5 (argsL := [.ref t, .int (Int32.ofNat i)]) (rest := []) rfl rfl (by show 2 * 0 + 0 ≤ _; decide) (hb hbytes d12) (⟨rfl, hx.2.2.2.1.mv X4.warmed.alike hh4, (k2 i hi).1, s3.there X4.warmed.alike hh4, rf⟩)
    obtain ⟨rfl, q6⟩ := E6
    rw [chr8_lo8 hr.1 (k2 i hi).2] at g6
    exact ⟨T6, some (.int (f i)), _, _, _, X6, rfl, rfl, rfl, (fun h => by cases h), ⟨rfl, q6.trans hh4⟩, fun fs hl => Steps.trans g6 (X6.ireturnOut hexec hret (narrow_ch hr.1 hr.2) (Or.inr (Or.inr (Or.inr (Or.inl rfl)))) (hb hbytes d15) hl)⟩
  · exact absurd k0 (by decide)
theorem pays {l : Launch} {R : Room} {p : Program} {e : Env} {below : List Frame} {s : State} {sargs : Array Value} {len W : Nat} (x t : Addr) (V : Cell) (n : Nat) (f : Nat → Int32) (z : Int32) (fm : Value) (i : Nat) (htab : tab.before sargs s = true) (hfr : 4 ≤ R.frames) (hlo : W + 53 ≤ R.locals) :
    Back l R p e below s sargs yN len W (fun A₁ a₁ => A₁.cells + 0 ≤ R.cells ∧ A₁.slots + 0 ≤ R.slots ∧ P x t V n f z fm i a₁ A₁.U) (fun A₁ _ v₁ B₁ => E f i v₁ A₁.U B₁.U ∧ B₁.locs = A₁.locs ++ [] ∧ B₁.cells = A₁.cells + 0 ∧ B₁.slots = A₁.slots + 0) :=
  (law l x t V n f z fm i).pays htab hfr (by omega)
end ChN
end StrChars
namespace StrChars.Road
open Jvm Sem ClassFile Op Lib Jvm.Stand Jvm.Free Jvm.Free.XT
open Jvm.Lib.Cold (StaticIs)
/-- the words of String.charAt(int), the Latin-1 road alone -/
abbrev wordsChN : List Jvm.Cond := [.code ChN.yN ChN.yB 2 (some .char), .initialized ST, .fieldLink ST 9 ST "value" "[B", .fieldLink ST 38 ST "COMPACT_STRINGS" "Z", .fieldLink ST 15 ST "coder" "B", .code IsL.yN IsL.yB 1 (some .boolean), .methodLink ST 492 IsL.yN, .declares IsL.yN, .selects ST IsL.yN IsL.yN, .instanceMethod IsL.yN,
  .methodLink ST 495 LChA.yN, .static LChA.yN, .code LChA.yN LChA.yB 2 (some .char), .initialized "java/lang/StringLatin1", .methodLink "java/lang/StringLatin1" 9 JO.Str_checkIndex.yN, .static JO.Str_checkIndex.yN, .code JO.Str_checkIndex.yN JO.Str_checkIndex.yB 2 none,
  .fieldLink ST 1053 "jdk/internal/util/Preconditions" "SIOOBE_FORMATTER" "Ljava/util/function/BiFunction;", .methodLink ST 1059 JC.PreCheck.yN, .static JC.PreCheck.yN, .code JC.PreCheck.yN JC.PreCheck.yB 3 (some .int), .initialized "jdk/internal/util/Preconditions"]
theorem tabChN_of {a : Array Value} {s : State} (h : ∀ w ∈ wordsChN, w.before a s = true) : ChN.tab.before a s = true := by
  have hp : JC.PreCheck.tab.before a s = true := unparts (wk h (.code JC.PreCheck.yN JC.PreCheck.yB 3 (some .int))) (wks h (.initialized JC.PreCheck.yN.cls :: JC.PreCheck.site))
  have qk := consq hp h
  have hk : JO.Str_checkIndex.tab.before a s = true := unparts (wk qk (.code JO.Str_checkIndex.yN JO.Str_checkIndex.yB 2 none)) (wks qk (.initialized JO.Str_checkIndex.yN.cls :: JO.Str_checkIndex.site))
  have ql := consq hk h
  have hl : LChA.tab.before a s = true := unparts (wk ql (.code LChA.yN LChA.yB 2 (some .char))) (wks ql (.initialized LChA.yN.cls :: LChA.site))
  have hi : IsL.tab.before a s = true := unparts (wk h (.code IsL.yN IsL.yB 1 (some .boolean))) (wks h (.initialized IsL.yN.cls :: IsL.site))
  have q := consq hi (consq hl h)
  exact unparts (wk q (.code ChN.yN ChN.yB 2 (some .char))) (wks q (.initialized ChN.yN.cls :: ChN.site))
theorem movedChN {Z s : State} {a0 args : Array Value} (hZ : Z.Warmed39 s.vm) (hw : ∀ d ∈ wordsChN, d.before a0 Z = true) : ∀ d ∈ wordsChN, d.before args s = true := fun d hd => by
  have t : ∀ d ∈ wordsChN, (d.onTables && d.keepsFace) = true := by decide +kernel
  exact RoadKit.mv hZ (hw d hd) (t d hd)
/-- **charAt(i) OF A LATIN-1 STRING**, i < n: the char -/
theorem chN {p : Program} {l : Launch} {e : Env} {R : Room} {s : State} {args : Array Value} {below : List Frame} {len W : Nat} {Z : State} {a0 : Array Value} {h : Heap} (hZ : Z.Warmed39 s.vm) (hw : ∀ d ∈ wordsChN, d.before a0 Z = true) {kI : Nat} (wi : (Jvm.Cond.instantiable ST kI).before a0 Z = true)
    {x t : Addr} {kb : ClassId} {cs : List Int32} {N2 z : Int32} {vs : List Value} {fm : Value} {i : Nat} {j : Int32} (E : RoadKit.Exa Z h x ST) (V : RoadKit.Fld Z h x ST "value" "[B" (.ref t)) (C : RoadKit.Fld Z h x ST "coder" "B" (.int 0)) (K : RoadKit.Arv Z h t kb .byte N2 vs (.int 0)) (hc : CodA cs 0 N2 vs) (hb : ∀ c ∈ cs, ¬ c < 0 ∧ ¬ (65535 : Int32) < c)
    (S : RoadKit.Sta Z h ST "COMPACT_STRINGS" "Z" (.int z)) (hz : ¬ z = 0) (F : RoadKit.Sta Z h "jdk/internal/util/Preconditions" "SIOOBE_FORMATTER" "Ljava/util/function/BiFunction;" fm) (rf : fm.isRef = true) (l2 : cs.length ≤ 4000) (hi : i < cs.length) (hj : j = Int32.ofNat i) (hfr : 4 ≤ R.frames) (hlo : W + 53 ≤ R.locals) :
    Back l R p e below s args (⟨"java/lang/String", "charAt", "(I)C"⟩ : MethodName) len W (fun P a => a = #[.ref x, .int j] ∧ P.U.heap = h ∧ P.cells + 0 ≤ R.cells ∧ P.slots + 0 ≤ R.slots)
      (fun P _ v B => ∃ L, (v = some (.int (cs.getD i 0)) ∧ L = [] ∧ B.U.heap = h) ∧ B.locs = P.locs ++ L ∧ B.cells = P.cells + 0 ∧ B.slots = P.slots + 0) := by
  subst hj
  intro m meth c P g ig mk a X hg hsize hdg hW hn hp'
  obtain ⟨rfl, rfl, r1, r2⟩ := hp'
  have al : Z.vm.Alike P.U.vm := hZ.alike.trans X.warmed.alike
  obtain ⟨A, hx⟩ := txt_of wi al E V C K hc hb l2
  obtain ⟨v, B, X', ⟨⟨hv, hh⟩, hl, hk, hs⟩, st⟩ := ChN.pays x t A cs.length (fun j => cs.getD j 0) z fm i (tabChN_of (movedChN hZ hw)) hfr hlo m meth c P g ig mk _ X hg hsize hdg hW hn ⟨r1, r2, rfl, hx, hi, sta_is al S, hz, sta_is al F, rf⟩
  exact ⟨v, B, X', ⟨[], ⟨hv, rfl, hh⟩, hl, hk, hs⟩, st⟩
/-- what backV says of its String, as the contracts of this text ask it: cs's low bytes, coder 0 -/
theorem codOf {cs : List Int32} {n : Nat} (hn : cs.length = n) (hb : ∀ c ∈ cs, ¬ 255 < c) : CodA cs 0 (Int32.ofNat n) ((cs.map lo8).map Value.int) := Or.inl ⟨rfl, by rw [hn], by simp [List.map_map, Function.comp_def], hb⟩
end StrChars.Road
end Jvm.Pilot.@@N@@
namespace Jvm.Pilot.@@N@@
open Jvm Jvm.ClassFile Sem Op Lib Jvm.Free Jvm.Stand Jvm.LawKit Jvm.RoadKit Bundle Jvm.Pilot.@@N@@.Jvm.D
section OwnKit
variable {p : Program} {l : Launch} {e : Env} {R : Room} {s : State} {m : MethodId} {args : Array Value} {below : List Frame} {meth : Method} {c : Code} {T : State} {locs : List Loc} {cells slots : Nat} {Z : State} {a0 : Array Value} {h : Heap} {Φ : Outcome → State → Prop}
def own_ushr (x y : Int32) : Int32 := (x.toUInt32 >>> (y &&& 31).toUInt32).toInt32
def own_ushrL (x : Int64) (y : Int32) : Int64 := (x.toUInt64 >>> (y &&& 0x3f).toInt64.toUInt64).toInt64
def own_Ends (p : Program) (e : Env) (below : List Frame) (Φ : Outcome → State → Prop) (t : State) : Prop := ∃ s₂ o, Steps p.tables e below t s₂ ∧ s₂.status = .running ∧ Ended s₂ below o ∧ Φ o s₂
theorem own_via {t t' : State} (k : ∀ u, Steps p.tables e below t' u → Steps p.tables e below t u) (h : own_Ends p e below Φ t') : own_Ends p e below Φ t := by
  obtain ⟨s₂, o, h1, h2⟩ := h; exact ⟨s₂, o, k _ h1, h2⟩
theorem own_thru {t t' : State} (k : Steps p.tables e below t t') (h : own_Ends p e below Φ t') : own_Ends p e below Φ t := own_via (fun _ q => k.trans q) h
def own_Post (s : State) (Q : Option Value → Heap → List Loc → Prop) (kc ks : Nat) (o : Outcome) (U : State) : Prop := ∃ v L, o = .returned v ∧ Q v U.heap L ∧ FrameEnd s o U L kc ks
def own_Met (l : Launch) (y : MethodName) (bytes : ByteArray) (maxL : Nat) (ret : Option FieldType) (rm : Room) (Z : State) (as' : Array Value) (h0 : Heap) (Q : Option Value → Heap → List Loc → Prop) : Prop :=
  ∀ ws : List Jvm.Cond, MetFree l y (head1 (Jvm.Cond.code y bytes maxL ret :: ws) rm) (fun a U => a = as' ∧ Z.Warmed39 U.vm ∧ U.heap = h0) (fun _ _ _ _ _ => True) (fun _ U o U' => ∃ v L, o = .returned v ∧ Q v U'.heap L ∧ FrameEnd U o U' L rm.cells rm.slots)
theorem own_met {y : MethodName} {bytes : ByteArray} {maxL : Nat} {ret : Option FieldType} {rm : Room} {as' : Array Value} {h0 : Heap} {Q : Option Value → Heap → List Loc → Prop} (hp : plainFor y = true)
    (body : ∀ (p : Program) (e : Env) (s : State) (m : MethodId) (below : List Frame) (meth : Method) (c : Code) (T : State), p.tables.exec = Jvm.exec → c.code = bytes → c.maxLocals = maxL → Z.Warmed39 s.vm → s.vm.findClass y.cls = some m.cls → meth.name = y.name → meth.sig.returnType = ret → meth.locks = false →
      Stand p l e rm s m as' below meth c T [] 0 0 → T.heap = h0 → s.heap = h0 → own_Ends p e below (own_Post s Q rm.cells rm.slots) (T.setTop (entryFrame m as' maxL))) : own_Met l y bytes maxL ret rm Z as' h0 Q := by
  intro ws
  refine MetFree.of_bodySF hp hisR ?_
  intro p e s m args below meth c s₁ Bd hml0 hP hK
  obtain ⟨rfl, hZ, hh⟩ := hP
  exact body p e s m below meth c s₁ Bd.exec Bd.bytes hml0 hZ (findClass_of_methodNamed Bd.named) (name_of_methodNamed Bd.named Bd.method).1 Bd.returns (BodyLoose.notSynchronized Bd) (Stand.of_body Bd) (by rw [← hh, Bd.state]; rfl) hh
theorem own_oz {n0 : Nat} (O : Old Z n0 h) : n0 ≤ h.size := O.1 ▸ O.2.1
theorem own_entry {g g' : JFrame} (q : g = g') (h : own_Ends p e below Φ (T.setTop g')) : own_Ends p e below Φ (T.setTop g) := q ▸ h
theorem own_iloadN (X : Stand p l e R s m args below meth c T locs cells slots) (hx : p.tables.exec = Jvm.exec) {pc pc' : Nat} {Ls : Array Slot} {rest : List Value} {k : Fin 4} {v : Int32} (hd : decode c.code pc = .ok (.iload_n k, 1)) (hl : Ls[k.val]? = some (.val (.int v))) (hp : pc + 1 = pc') (h : own_Ends p e below Φ (T.setTop (mkF m pc' Ls (.int v :: rest)))) : own_Ends p e below Φ (T.setTop (mkF m pc Ls (rest))) := by
  subst hp; exact own_via (fun _ k => XS.iloadN X.here hx (g := mkF m pc Ls (rest)) rfl hd hl k) h
theorem own_lloadN (X : Stand p l e R s m args below meth c T locs cells slots) (hx : p.tables.exec = Jvm.exec) {pc pc' : Nat} {Ls : Array Slot} {rest : List Value} {k : Fin 4} {v : Int64} (hd : decode c.code pc = .ok (.lload_n k, 1)) (hl : Ls[k.val]? = some (.val (.long v))) (hp : pc + 1 = pc') (h : own_Ends p e below Φ (T.setTop (mkF m pc' Ls (.long v :: rest)))) : own_Ends p e below Φ (T.setTop (mkF m pc Ls (rest))) := by
  subst hp; exact own_via (fun _ k => XS.lloadN X.here hx (g := mkF m pc Ls (rest)) rfl hd hl k) h
theorem own_aloadN (X : Stand p l e R s m args below meth c T locs cells slots) (hx : p.tables.exec = Jvm.exec) {pc pc' : Nat} {Ls : Array Slot} {rest : List Value} {k : Fin 4} {v : Value} (hd : decode c.code pc = .ok (.aload_n k, 1)) (hl : Ls[k.val]? = some (.val v)) (hv : v.isRef = true) (hp : pc + 1 = pc') (h : own_Ends p e below Φ (T.setTop (mkF m pc' Ls (v :: rest)))) : own_Ends p e below Φ (T.setTop (mkF m pc Ls (rest))) := by
  subst hp; exact own_via (fun _ k => XS.aloadN X.here hx (g := mkF m pc Ls (rest)) rfl hd hl hv k) h
theorem own_istoreN (X : Stand p l e R s m args below meth c T locs cells slots) (hx : p.tables.exec = Jvm.exec) {pc pc' : Nat} {Ls : Array Slot} {rest : List Value} {k : Fin 4} {v : Int32} (Ls' : Array Slot) (hd : decode c.code pc = .ok (.istore_n k, 1)) (hl : storeLocals Ls k.val (.int v) = some Ls') (hp : pc + 1 = pc') (h : own_Ends p e below Φ (T.setTop (mkF m pc' Ls' (rest)))) : own_Ends p e below Φ (T.setTop (mkF m pc Ls (.int v :: rest))) := by
  subst hp; exact own_via (fun _ k => XS.istoreN X.here hx (g := mkF m pc Ls (.int v :: rest)) rfl hd rfl hl k) h
theorem own_lstoreN (X : Stand p l e R s m args below meth c T locs cells slots) (hx : p.tables.exec = Jvm.exec) {pc pc' : Nat} {Ls : Array Slot} {rest : List Value} {k : Fin 4} {v : Int64} (Ls' : Array Slot) (hd : decode c.code pc = .ok (.lstore_n k, 1)) (hl : storeLocals Ls k.val (.long v) = some Ls') (hp : pc + 1 = pc') (h : own_Ends p e below Φ (T.setTop (mkF m pc' Ls' (rest)))) : own_Ends p e below Φ (T.setTop (mkF m pc Ls (.long v :: rest))) := by
  subst hp; exact own_via (fun _ k => XS.lstoreN X.here hx (g := mkF m pc Ls (.long v :: rest)) rfl hd rfl hl k) h
theorem own_astoreN (X : Stand p l e R s m args below meth c T locs cells slots) (hx : p.tables.exec = Jvm.exec) {pc pc' : Nat} {Ls : Array Slot} {rest : List Value} {k : Fin 4} {v : Value} (Ls' : Array Slot) (hd : decode c.code pc = .ok (.astore_n k, 1)) (hv : v.isRef = true) (hl : storeLocals Ls k.val v = some Ls') (hp : pc + 1 = pc') (h : own_Ends p e below Φ (T.setTop (mkF m pc' Ls' (rest)))) : own_Ends p e below Φ (T.setTop (mkF m pc Ls (v :: rest))) := by
  subst hp; exact own_via (fun _ k => XS.astoreN X.here hx (g := mkF m pc Ls (v :: rest)) rfl hd rfl hv hl k) h
theorem own_iload (X : Stand p l e R s m args below meth c T locs cells slots) (hx : p.tables.exec = Jvm.exec) {pc pc' : Nat} {Ls : Array Slot} {rest : List Value} {k : Nat} {v : Int32} (hd : decode c.code pc = .ok (.iload k, 2)) (hl : Ls[k]? = some (.val (.int v))) (hp : pc + 2 = pc') (h : own_Ends p e below Φ (T.setTop (mkF m pc' Ls (.int v :: rest)))) : own_Ends p e below Φ (T.setTop (mkF m pc Ls (rest))) := by
  subst hp; exact own_via (fun _ k => XS.iload X.here hx (g := mkF m pc Ls (rest)) rfl hd hl k) h
theorem own_lload (X : Stand p l e R s m args below meth c T locs cells slots) (hx : p.tables.exec = Jvm.exec) {pc pc' : Nat} {Ls : Array Slot} {rest : List Value} {k : Nat} {v : Int64} (hd : decode c.code pc = .ok (.lload k, 2)) (hl : Ls[k]? = some (.val (.long v))) (hp : pc + 2 = pc') (h : own_Ends p e below Φ (T.setTop (mkF m pc' Ls (.long v :: rest)))) : own_Ends p e below Φ (T.setTop (mkF m pc Ls (rest))) := by
  subst hp; exact own_via (fun _ k => XS.lload X.here hx (g := mkF m pc Ls (rest)) rfl hd hl k) h
theorem own_aload (X : Stand p l e R s m args below meth c T locs cells slots) (hx : p.tables.exec = Jvm.exec) {pc pc' : Nat} {Ls : Array Slot} {rest : List Value} {k : Nat} {v : Value} (hd : decode c.code pc = .ok (.aload k, 2)) (hl : Ls[k]? = some (.val v)) (hv : v.isRef = true) (hp : pc + 2 = pc') (h : own_Ends p e below Φ (T.setTop (mkF m pc' Ls (v :: rest)))) : own_Ends p e below Φ (T.setTop (mkF m pc Ls (rest))) := by
  subst hp; exact own_via (fun _ k => XS.aload X.here hx (g := mkF m pc Ls (rest)) rfl hd hl hv k) h
theorem own_istore (X : Stand p l e R s m args below meth c T locs cells slots) (hx : p.tables.exec = Jvm.exec) {pc pc' : Nat} {Ls : Array Slot} {rest : List Value} {k : Nat} {v : Int32} (Ls' : Array Slot) (hd : decode c.code pc = .ok (.istore k, 2)) (hl : storeLocals Ls k (.int v) = some Ls') (hp : pc + 2 = pc') (h : own_Ends p e below Φ (T.setTop (mkF m pc' Ls' (rest)))) : own_Ends p e below Φ (T.setTop (mkF m pc Ls (.int v :: rest))) := by
  subst hp; exact own_via (fun _ k => XS.istore X.here hx (g := mkF m pc Ls (.int v :: rest)) rfl hd rfl hl k) h
theorem own_lstore (X : Stand p l e R s m args below meth c T locs cells slots) (hx : p.tables.exec = Jvm.exec) {pc pc' : Nat} {Ls : Array Slot} {rest : List Value} {k : Nat} {v : Int64} (Ls' : Array Slot) (hd : decode c.code pc = .ok (.lstore k, 2)) (hl : storeLocals Ls k (.long v) = some Ls') (hp : pc + 2 = pc') (h : own_Ends p e below Φ (T.setTop (mkF m pc' Ls' (rest)))) : own_Ends p e below Φ (T.setTop (mkF m pc Ls (.long v :: rest))) := by
  subst hp; exact own_via (fun _ k => XS.lstore X.here hx (g := mkF m pc Ls (.long v :: rest)) rfl hd rfl hl k) h
theorem own_astore (X : Stand p l e R s m args below meth c T locs cells slots) (hx : p.tables.exec = Jvm.exec) {pc pc' : Nat} {Ls : Array Slot} {rest : List Value} {k : Nat} {v : Value} (Ls' : Array Slot) (hd : decode c.code pc = .ok (.astore k, 2)) (hv : v.isRef = true) (hl : storeLocals Ls k v = some Ls') (hp : pc + 2 = pc') (h : own_Ends p e below Φ (T.setTop (mkF m pc' Ls' (rest)))) : own_Ends p e below Φ (T.setTop (mkF m pc Ls (v :: rest))) := by
  subst hp; exact own_via (fun _ k => XS.astore X.here hx (g := mkF m pc Ls (v :: rest)) rfl hd rfl hv hl k) h
theorem own_iconst (X : Stand p l e R s m args below meth c T locs cells slots) (hx : p.tables.exec = Jvm.exec) {pc pc' : Nat} {Ls : Array Slot} {rest : List Value} {i : Int} (v : Int32) (hd : decode c.code pc = .ok (.iconst i, 1)) (hv : Int32.ofInt i = v) (hp : pc + 1 = pc') (h : own_Ends p e below Φ (T.setTop (mkF m pc' Ls (.int v :: rest)))) : own_Ends p e below Φ (T.setTop (mkF m pc Ls rest)) := by
  subst hp hv; exact own_via (fun _ k => XS.iconst X.here hx (g := mkF m pc Ls rest) rfl hd k) h
theorem own_bipush (X : Stand p l e R s m args below meth c T locs cells slots) (hx : p.tables.exec = Jvm.exec) {pc pc' : Nat} {Ls : Array Slot} {rest : List Value} {i : Int} (v : Int32) (hd : decode c.code pc = .ok (.bipush i, 2)) (hv : (Int8.ofInt i).toInt32 = v) (hp : pc + 2 = pc') (h : own_Ends p e below Φ (T.setTop (mkF m pc' Ls (.int v :: rest)))) : own_Ends p e below Φ (T.setTop (mkF m pc Ls rest)) := by
  subst hp hv; exact own_via (fun _ k => XS.bipush X.here hx (g := mkF m pc Ls rest) rfl hd k) h
theorem own_sipush (X : Stand p l e R s m args below meth c T locs cells slots) (hx : p.tables.exec = Jvm.exec) {pc pc' : Nat} {Ls : Array Slot} {rest : List Value} {i : Int} (v : Int32) (hd : decode c.code pc = .ok (.sipush i, 3)) (hv : (Int16.ofInt i).toInt32 = v) (hp : pc + 3 = pc') (h : own_Ends p e below Φ (T.setTop (mkF m pc' Ls (.int v :: rest)))) : own_Ends p e below Φ (T.setTop (mkF m pc Ls rest)) := by
  subst hp hv; exact own_via (fun _ k => XS.sipush X.here hx (g := mkF m pc Ls rest) rfl hd k) h
theorem own_lconst (X : Stand p l e R s m args below meth c T locs cells slots) (hx : p.tables.exec = Jvm.exec) {pc pc' : Nat} {Ls : Array Slot} {rest : List Value} {i : Fin 2} (v : Int64) (hd : decode c.code pc = .ok (.lconst i, 1)) (hv : Int64.ofNat i = v) (hp : pc + 1 = pc') (h : own_Ends p e below Φ (T.setTop (mkF m pc' Ls (.long v :: rest)))) : own_Ends p e below Φ (T.setTop (mkF m pc Ls rest)) := by
  subst hp hv; exact own_via (fun _ k => XS.lconst X.here hx (g := mkF m pc Ls rest) rfl hd k) h
theorem own_aconst_null (X : Stand p l e R s m args below meth c T locs cells slots) (hx : p.tables.exec = Jvm.exec) {pc pc' : Nat} {Ls : Array Slot} {rest : List Value}  (hd : decode c.code pc = .ok (.aconst_null, 1))  (hp : pc + 1 = pc') (h : own_Ends p e below Φ (T.setTop (mkF m pc' Ls (.null :: rest)))) : own_Ends p e below Φ (T.setTop (mkF m pc Ls (rest))) := by
  subst hp; exact own_via (fun _ k => XS.aconstNull X.here hx (g := mkF m pc Ls (rest)) rfl hd  k) h
theorem own_iadd (X : Stand p l e R s m args below meth c T locs cells slots) (hx : p.tables.exec = Jvm.exec) {pc pc' : Nat} {Ls : Array Slot} {rest : List Value} {x y : Int32} (hd : decode c.code pc = .ok (.iadd, 1))  (hp : pc + 1 = pc') (h : own_Ends p e below Φ (T.setTop (mkF m pc' Ls (.int (x + y) :: rest)))) : own_Ends p e below Φ (T.setTop (mkF m pc Ls (.int y :: .int x :: rest))) := by
  subst hp; exact own_via (fun _ k => XS.iadd X.here hx (g := mkF m pc Ls (.int y :: .int x :: rest)) rfl hd rfl k) h
theorem own_isub (X : Stand p l e R s m args below meth c T locs cells slots) (hx : p.tables.exec = Jvm.exec) {pc pc' : Nat} {Ls : Array Slot} {rest : List Value} {x y : Int32} (hd : decode c.code pc = .ok (.isub, 1))  (hp : pc + 1 = pc') (h : own_Ends p e below Φ (T.setTop (mkF m pc' Ls (.int (x - y) :: rest)))) : own_Ends p e below Φ (T.setTop (mkF m pc Ls (.int y :: .int x :: rest))) := by
  subst hp; exact own_via (fun _ k => XS.isub X.here hx (g := mkF m pc Ls (.int y :: .int x :: rest)) rfl hd rfl k) h
theorem own_imul (X : Stand p l e R s m args below meth c T locs cells slots) (hx : p.tables.exec = Jvm.exec) {pc pc' : Nat} {Ls : Array Slot} {rest : List Value} {x y : Int32} (hd : decode c.code pc = .ok (.imul, 1))  (hp : pc + 1 = pc') (h : own_Ends p e below Φ (T.setTop (mkF m pc' Ls (.int (x * y) :: rest)))) : own_Ends p e below Φ (T.setTop (mkF m pc Ls (.int y :: .int x :: rest))) := by
  subst hp; exact own_via (fun _ k => XS.imul X.here hx (g := mkF m pc Ls (.int y :: .int x :: rest)) rfl hd rfl k) h
theorem own_iand (X : Stand p l e R s m args below meth c T locs cells slots) (hx : p.tables.exec = Jvm.exec) {pc pc' : Nat} {Ls : Array Slot} {rest : List Value} {x y : Int32} (hd : decode c.code pc = .ok (.iand, 1))  (hp : pc + 1 = pc') (h : own_Ends p e below Φ (T.setTop (mkF m pc' Ls (.int (x &&& y) :: rest)))) : own_Ends p e below Φ (T.setTop (mkF m pc Ls (.int y :: .int x :: rest))) := by
  subst hp; exact own_via (fun _ k => XS.iand X.here hx (g := mkF m pc Ls (.int y :: .int x :: rest)) rfl hd rfl k) h
theorem own_ior (X : Stand p l e R s m args below meth c T locs cells slots) (hx : p.tables.exec = Jvm.exec) {pc pc' : Nat} {Ls : Array Slot} {rest : List Value} {x y : Int32} (hd : decode c.code pc = .ok (.ior, 1))  (hp : pc + 1 = pc') (h : own_Ends p e below Φ (T.setTop (mkF m pc' Ls (.int (x ||| y) :: rest)))) : own_Ends p e below Φ (T.setTop (mkF m pc Ls (.int y :: .int x :: rest))) := by
  subst hp; exact own_via (fun _ k => XS.ior X.here hx (g := mkF m pc Ls (.int y :: .int x :: rest)) rfl hd rfl k) h
theorem own_ixor (X : Stand p l e R s m args below meth c T locs cells slots) (hx : p.tables.exec = Jvm.exec) {pc pc' : Nat} {Ls : Array Slot} {rest : List Value} {x y : Int32} (hd : decode c.code pc = .ok (.ixor, 1))  (hp : pc + 1 = pc') (h : own_Ends p e below Φ (T.setTop (mkF m pc' Ls (.int (x ^^^ y) :: rest)))) : own_Ends p e below Φ (T.setTop (mkF m pc Ls (.int y :: .int x :: rest))) := by
  subst hp; exact own_via (fun _ k => XS.ixor X.here hx (g := mkF m pc Ls (.int y :: .int x :: rest)) rfl hd rfl k) h
theorem own_ishl (X : Stand p l e R s m args below meth c T locs cells slots) (hx : p.tables.exec = Jvm.exec) {pc pc' : Nat} {Ls : Array Slot} {rest : List Value} {x y : Int32} (hd : decode c.code pc = .ok (.ishl, 1))  (hp : pc + 1 = pc') (h : own_Ends p e below Φ (T.setTop (mkF m pc' Ls (.int (x <<< (y &&& 31)) :: rest)))) : own_Ends p e below Φ (T.setTop (mkF m pc Ls (.int y :: .int x :: rest))) := by
  subst hp; exact own_via (fun _ k => XS.ishl X.here hx (g := mkF m pc Ls (.int y :: .int x :: rest)) rfl hd rfl k) h
theorem own_ishr (X : Stand p l e R s m args below meth c T locs cells slots) (hx : p.tables.exec = Jvm.exec) {pc pc' : Nat} {Ls : Array Slot} {rest : List Value} {x y : Int32} (hd : decode c.code pc = .ok (.ishr, 1))  (hp : pc + 1 = pc') (h : own_Ends p e below Φ (T.setTop (mkF m pc' Ls (.int (x >>> (y &&& 31)) :: rest)))) : own_Ends p e below Φ (T.setTop (mkF m pc Ls (.int y :: .int x :: rest))) := by
  subst hp; exact own_via (fun _ k => XS.ishr X.here hx (g := mkF m pc Ls (.int y :: .int x :: rest)) rfl hd rfl k) h
theorem own_iushr (X : Stand p l e R s m args below meth c T locs cells slots) (hx : p.tables.exec = Jvm.exec) {pc pc' : Nat} {Ls : Array Slot} {rest : List Value} {x y : Int32} (hd : decode c.code pc = .ok (.iushr, 1))  (hp : pc + 1 = pc') (h : own_Ends p e below Φ (T.setTop (mkF m pc' Ls (.int (own_ushr x y) :: rest)))) : own_Ends p e below Φ (T.setTop (mkF m pc Ls (.int y :: .int x :: rest))) := by
  subst hp; exact own_via (fun _ k => XS.iushr X.here hx (g := mkF m pc Ls (.int y :: .int x :: rest)) rfl hd rfl k) h
theorem own_ladd (X : Stand p l e R s m args below meth c T locs cells slots) (hx : p.tables.exec = Jvm.exec) {pc pc' : Nat} {Ls : Array Slot} {rest : List Value} {x y : Int64} (hd : decode c.code pc = .ok (.ladd, 1))  (hp : pc + 1 = pc') (h : own_Ends p e below Φ (T.setTop (mkF m pc' Ls (.long (x + y) :: rest)))) : own_Ends p e below Φ (T.setTop (mkF m pc Ls (.long y :: .long x :: rest))) := by
  subst hp; exact own_via (fun _ k => XS.ladd X.here hx (g := mkF m pc Ls (.long y :: .long x :: rest)) rfl hd rfl k) h
theorem own_lsub (X : Stand p l e R s m args below meth c T locs cells slots) (hx : p.tables.exec = Jvm.exec) {pc pc' : Nat} {Ls : Array Slot} {rest : List Value} {x y : Int64} (hd : decode c.code pc = .ok (.lsub, 1))  (hp : pc + 1 = pc') (h : own_Ends p e below Φ (T.setTop (mkF m pc' Ls (.long (x - y) :: rest)))) : own_Ends p e below Φ (T.setTop (mkF m pc Ls (.long y :: .long x :: rest))) := by
  subst hp; exact own_via (fun _ k => XS.lsub X.here hx (g := mkF m pc Ls (.long y :: .long x :: rest)) rfl hd rfl k) h
theorem own_lmul (X : Stand p l e R s m args below meth c T locs cells slots) (hx : p.tables.exec = Jvm.exec) {pc pc' : Nat} {Ls : Array Slot} {rest : List Value} {x y : Int64} (hd : decode c.code pc = .ok (.lmul, 1))  (hp : pc + 1 = pc') (h : own_Ends p e below Φ (T.setTop (mkF m pc' Ls (.long (x * y) :: rest)))) : own_Ends p e below Φ (T.setTop (mkF m pc Ls (.long y :: .long x :: rest))) := by
  subst hp; exact own_via (fun _ k => XS.lmul X.here hx (g := mkF m pc Ls (.long y :: .long x :: rest)) rfl hd rfl k) h
theorem own_land (X : Stand p l e R s m args below meth c T locs cells slots) (hx : p.tables.exec = Jvm.exec) {pc pc' : Nat} {Ls : Array Slot} {rest : List Value} {x y : Int64} (hd : decode c.code pc = .ok (.land, 1))  (hp : pc + 1 = pc') (h : own_Ends p e below Φ (T.setTop (mkF m pc' Ls (.long (x &&& y) :: rest)))) : own_Ends p e below Φ (T.setTop (mkF m pc Ls (.long y :: .long x :: rest))) := by
  subst hp; exact own_via (fun _ k => XS.land X.here hx (g := mkF m pc Ls (.long y :: .long x :: rest)) rfl hd rfl k) h
theorem own_lor (X : Stand p l e R s m args below meth c T locs cells slots) (hx : p.tables.exec = Jvm.exec) {pc pc' : Nat} {Ls : Array Slot} {rest : List Value} {x y : Int64} (hd : decode c.code pc = .ok (.lor, 1))  (hp : pc + 1 = pc') (h : own_Ends p e below Φ (T.setTop (mkF m pc' Ls (.long (x ||| y) :: rest)))) : own_Ends p e below Φ (T.setTop (mkF m pc Ls (.long y :: .long x :: rest))) := by
  subst hp; exact own_via (fun _ k => XS.lor X.here hx (g := mkF m pc Ls (.long y :: .long x :: rest)) rfl hd rfl k) h
theorem own_lxor (X : Stand p l e R s m args below meth c T locs cells slots) (hx : p.tables.exec = Jvm.exec) {pc pc' : Nat} {Ls : Array Slot} {rest : List Value} {x y : Int64} (hd : decode c.code pc = .ok (.lxor, 1))  (hp : pc + 1 = pc') (h : own_Ends p e below Φ (T.setTop (mkF m pc' Ls (.long (x ^^^ y) :: rest)))) : own_Ends p e below Φ (T.setTop (mkF m pc Ls (.long y :: .long x :: rest))) := by
  subst hp; exact own_via (fun _ k => XS.lxor X.here hx (g := mkF m pc Ls (.long y :: .long x :: rest)) rfl hd rfl k) h
theorem own_lshl (X : Stand p l e R s m args below meth c T locs cells slots) (hx : p.tables.exec = Jvm.exec) {pc pc' : Nat} {Ls : Array Slot} {rest : List Value} {x : Int64} {y : Int32} (hd : decode c.code pc = .ok (.lshl, 1))  (hp : pc + 1 = pc') (h : own_Ends p e below Φ (T.setTop (mkF m pc' Ls (.long (x <<< (y &&& 0x3f).toInt64) :: rest)))) : own_Ends p e below Φ (T.setTop (mkF m pc Ls (.int y :: .long x :: rest))) := by
  subst hp; exact own_via (fun _ k => XS.lshl X.here hx (g := mkF m pc Ls (.int y :: .long x :: rest)) rfl hd rfl k) h
theorem own_lshr (X : Stand p l e R s m args below meth c T locs cells slots) (hx : p.tables.exec = Jvm.exec) {pc pc' : Nat} {Ls : Array Slot} {rest : List Value} {x : Int64} {y : Int32} (hd : decode c.code pc = .ok (.lshr, 1))  (hp : pc + 1 = pc') (h : own_Ends p e below Φ (T.setTop (mkF m pc' Ls (.long (x >>> (y &&& 0x3f).toInt64) :: rest)))) : own_Ends p e below Φ (T.setTop (mkF m pc Ls (.int y :: .long x :: rest))) := by
  subst hp; exact own_via (fun _ k => XS.lshr X.here hx (g := mkF m pc Ls (.int y :: .long x :: rest)) rfl hd rfl k) h
theorem own_lushr (X : Stand p l e R s m args below meth c T locs cells slots) (hx : p.tables.exec = Jvm.exec) {pc pc' : Nat} {Ls : Array Slot} {rest : List Value} {x : Int64} {y : Int32} (hd : decode c.code pc = .ok (.lushr, 1))  (hp : pc + 1 = pc') (h : own_Ends p e below Φ (T.setTop (mkF m pc' Ls (.long (own_ushrL x y) :: rest)))) : own_Ends p e below Φ (T.setTop (mkF m pc Ls (.int y :: .long x :: rest))) := by
  subst hp; exact own_via (fun _ k => XS.lushr X.here hx (g := mkF m pc Ls (.int y :: .long x :: rest)) rfl hd rfl k) h
theorem own_idiv (X : Stand p l e R s m args below meth c T locs cells slots) (hx : p.tables.exec = Jvm.exec) {pc pc' : Nat} {Ls : Array Slot} {rest : List Value} {x y : Int32} (hd : decode c.code pc = .ok (.idiv, 1)) (hy : y ≠ 0) (hp : pc + 1 = pc') (h : own_Ends p e below Φ (T.setTop (mkF m pc' Ls (.int (x / y) :: rest)))) : own_Ends p e below Φ (T.setTop (mkF m pc Ls (.int y :: .int x :: rest))) := by
  subst hp; exact own_via (fun _ k => XS.idiv X.here hx (g := mkF m pc Ls (.int y :: .int x :: rest)) rfl hd rfl hy k) h
theorem own_irem (X : Stand p l e R s m args below meth c T locs cells slots) (hx : p.tables.exec = Jvm.exec) {pc pc' : Nat} {Ls : Array Slot} {rest : List Value} {x y : Int32} (hd : decode c.code pc = .ok (.irem, 1)) (hy : y ≠ 0) (hp : pc + 1 = pc') (h : own_Ends p e below Φ (T.setTop (mkF m pc' Ls (.int (x % y) :: rest)))) : own_Ends p e below Φ (T.setTop (mkF m pc Ls (.int y :: .int x :: rest))) := by
  subst hp; exact own_via (fun _ k => iremM X hx (g := mkF m pc Ls (.int y :: .int x :: rest)) rfl hd rfl hy k) h
theorem own_ineg (X : Stand p l e R s m args below meth c T locs cells slots) (hx : p.tables.exec = Jvm.exec) {pc pc' : Nat} {Ls : Array Slot} {rest : List Value} {x : Int32} (hd : decode c.code pc = .ok (.ineg, 1))  (hp : pc + 1 = pc') (h : own_Ends p e below Φ (T.setTop (mkF m pc' Ls (.int (-x) :: rest)))) : own_Ends p e below Φ (T.setTop (mkF m pc Ls (.int x :: rest))) := by
  subst hp; exact own_via (fun _ k => XS.ineg X.here hx (g := mkF m pc Ls (.int x :: rest)) rfl hd rfl k) h
theorem own_lneg (X : Stand p l e R s m args below meth c T locs cells slots) (hx : p.tables.exec = Jvm.exec) {pc pc' : Nat} {Ls : Array Slot} {rest : List Value} {x : Int64} (hd : decode c.code pc = .ok (.lneg, 1))  (hp : pc + 1 = pc') (h : own_Ends p e below Φ (T.setTop (mkF m pc' Ls (.long (-x) :: rest)))) : own_Ends p e below Φ (T.setTop (mkF m pc Ls (.long x :: rest))) := by
  subst hp; exact own_via (fun _ k => XS.lneg X.here hx (g := mkF m pc Ls (.long x :: rest)) rfl hd rfl k) h
theorem own_i2l (X : Stand p l e R s m args below meth c T locs cells slots) (hx : p.tables.exec = Jvm.exec) {pc pc' : Nat} {Ls : Array Slot} {rest : List Value} {x : Int32} (hd : decode c.code pc = .ok (.i2l, 1))  (hp : pc + 1 = pc') (h : own_Ends p e below Φ (T.setTop (mkF m pc' Ls (.long (x.toInt64) :: rest)))) : own_Ends p e below Φ (T.setTop (mkF m pc Ls (.int x :: rest))) := by
  subst hp; exact own_via (fun _ k => XS.i2l X.here hx (g := mkF m pc Ls (.int x :: rest)) rfl hd rfl k) h
theorem own_l2i (X : Stand p l e R s m args below meth c T locs cells slots) (hx : p.tables.exec = Jvm.exec) {pc pc' : Nat} {Ls : Array Slot} {rest : List Value} {x : Int64} (hd : decode c.code pc = .ok (.l2i, 1))  (hp : pc + 1 = pc') (h : own_Ends p e below Φ (T.setTop (mkF m pc' Ls (.int (x.toInt32) :: rest)))) : own_Ends p e below Φ (T.setTop (mkF m pc Ls (.long x :: rest))) := by
  subst hp; exact own_via (fun _ k => XS.l2i X.here hx (g := mkF m pc Ls (.long x :: rest)) rfl hd rfl k) h
theorem own_i2b (X : Stand p l e R s m args below meth c T locs cells slots) (hx : p.tables.exec = Jvm.exec) {pc pc' : Nat} {Ls : Array Slot} {rest : List Value} {x : Int32} (hd : decode c.code pc = .ok (.i2b, 1))  (hp : pc + 1 = pc') (h : own_Ends p e below Φ (T.setTop (mkF m pc' Ls (.int (x.toInt8.toInt32) :: rest)))) : own_Ends p e below Φ (T.setTop (mkF m pc Ls (.int x :: rest))) := by
  subst hp; exact own_via (fun _ k => XS.i2b X.here hx (g := mkF m pc Ls (.int x :: rest)) rfl hd rfl k) h
theorem own_i2c (X : Stand p l e R s m args below meth c T locs cells slots) (hx : p.tables.exec = Jvm.exec) {pc pc' : Nat} {Ls : Array Slot} {rest : List Value} {x : Int32} (hd : decode c.code pc = .ok (.i2c, 1))  (hp : pc + 1 = pc') (h : own_Ends p e below Φ (T.setTop (mkF m pc' Ls (.int (x.toUInt32.toUInt16.toUInt32.toInt32) :: rest)))) : own_Ends p e below Φ (T.setTop (mkF m pc Ls (.int x :: rest))) := by
  subst hp; exact own_via (fun _ k => XS.i2c X.here hx (g := mkF m pc Ls (.int x :: rest)) rfl hd rfl k) h
theorem own_i2s (X : Stand p l e R s m args below meth c T locs cells slots) (hx : p.tables.exec = Jvm.exec) {pc pc' : Nat} {Ls : Array Slot} {rest : List Value} {x : Int32} (hd : decode c.code pc = .ok (.i2s, 1))  (hp : pc + 1 = pc') (h : own_Ends p e below Φ (T.setTop (mkF m pc' Ls (.int (x.toInt16.toInt32) :: rest)))) : own_Ends p e below Φ (T.setTop (mkF m pc Ls (.int x :: rest))) := by
  subst hp; exact own_via (fun _ k => XS.i2s X.here hx (g := mkF m pc Ls (.int x :: rest)) rfl hd rfl k) h
theorem own_lcmp (X : Stand p l e R s m args below meth c T locs cells slots) (hx : p.tables.exec = Jvm.exec) {pc pc' : Nat} {Ls : Array Slot} {rest : List Value} {x y : Int64} (hd : decode c.code pc = .ok (.lcmp, 1))  (hp : pc + 1 = pc') (h : own_Ends p e below Φ (T.setTop (mkF m pc' Ls (.int (lcmpW x y) :: rest)))) : own_Ends p e below Φ (T.setTop (mkF m pc Ls (.long y :: .long x :: rest))) := by
  subst hp; exact own_via (fun _ k => XS.lcmp X.here hx (g := mkF m pc Ls (.long y :: .long x :: rest)) rfl hd rfl k) h
theorem own_dup (X : Stand p l e R s m args below meth c T locs cells slots) (hx : p.tables.exec = Jvm.exec) {pc pc' : Nat} {Ls : Array Slot} {rest : List Value} {x : Value} (hd : decode c.code pc = .ok (.dup, 1)) (hc : x.category = 1) (hp : pc + 1 = pc') (h : own_Ends p e below Φ (T.setTop (mkF m pc' Ls (x :: x :: rest)))) : own_Ends p e below Φ (T.setTop (mkF m pc Ls (x :: rest))) := by
  subst hp; exact own_via (fun _ k => XS.dup X.here hx (g := mkF m pc Ls (x :: rest)) rfl hd rfl hc k) h
theorem own_pop (X : Stand p l e R s m args below meth c T locs cells slots) (hx : p.tables.exec = Jvm.exec) {pc pc' : Nat} {Ls : Array Slot} {rest : List Value} {x : Value} (hd : decode c.code pc = .ok (.pop, 1)) (hc : x.category = 1) (hp : pc + 1 = pc') (h : own_Ends p e below Φ (T.setTop (mkF m pc' Ls (rest)))) : own_Ends p e below Φ (T.setTop (mkF m pc Ls (x :: rest))) := by
  subst hp; exact own_via (fun _ k => XS.pop X.here hx (g := mkF m pc Ls (x :: rest)) rfl hd rfl hc k) h
theorem own_dup_x1 (X : Stand p l e R s m args below meth c T locs cells slots) (hx : p.tables.exec = Jvm.exec) {pc pc' : Nat} {Ls : Array Slot} {rest : List Value} {x y : Value} (hd : decode c.code pc = .ok (.dup_x1, 1)) (hc : x.category = 1) (hc' : y.category = 1) (hp : pc + 1 = pc') (h : own_Ends p e below Φ (T.setTop (mkF m pc' Ls (x :: y :: x :: rest)))) : own_Ends p e below Φ (T.setTop (mkF m pc Ls (x :: y :: rest))) := by
  subst hp; exact own_via (fun _ k => XS.dupX1 X.here hx (g := mkF m pc Ls (x :: y :: rest)) rfl hd rfl hc hc' k) h
theorem own_iinc (X : Stand p l e R s m args below meth c T locs cells slots) (hx : p.tables.exec = Jvm.exec) {pc pc' : Nat} {Ls : Array Slot} {rest : List Value} {k : Nat} {cst : Int} {x : Int32} (Ls' : Array Slot) (hd : decode c.code pc = .ok (.iinc k cst, 3)) (hl : Ls[k]? = some (.val (.int x))) (hl' : storeLocals Ls k (.int (x + Int32.ofInt cst)) = some Ls') (hp : pc + 3 = pc') (h : own_Ends p e below Φ (T.setTop (mkF m pc' Ls' rest))) : own_Ends p e below Φ (T.setTop (mkF m pc Ls rest)) := by
  subst hp; exact own_via (fun _ k => XS.iinc X.here hx (g := mkF m pc Ls rest) rfl hd hl hl' k) h
theorem own_goto (X : Stand p l e R s m args below meth c T locs cells slots) (hx : p.tables.exec = Jvm.exec) {pc pc' : Nat} {Ls : Array Slot} {rest : List Value} {o : Int} (hd : decode c.code pc = .ok (.goto o, 3)) (ho : 0 ≤ (pc : Int) + o) (hp : ((pc : Int) + o).toNat = pc') (h : own_Ends p e below Φ (T.setTop (mkF m pc' Ls rest))) : own_Ends p e below Φ (T.setTop (mkF m pc Ls rest)) := own_via (fun _ k => XS.goto X.here hx (g := mkF m pc Ls rest) rfl (pc0 := pc) (pc' := pc') rfl hd ho hp k) h
theorem own_icmp_eq (X : Stand p l e R s m args below meth c T locs cells slots) (hx : p.tables.exec = Jvm.exec) {pc pcT pcF : Nat} {Ls : Array Slot} {rest : List Value} {x y : Int32} {o : Int} (hd : decode c.code pc = .ok (.if_icmp .eq o, 3)) (ho : 0 ≤ (pc : Int) + o) (hT : ((pc : Int) + o).toNat = pcT) (hF : pc + 3 = pcF) (kT : x = y → own_Ends p e below Φ (T.setTop (mkF m pcT Ls rest))) (kF : ¬ x = y → own_Ends p e below Φ (T.setTop (mkF m pcF Ls rest))) : own_Ends p e below Φ (T.setTop (mkF m pc Ls (.int y :: .int x :: rest))) := by
  subst hF; by_cases q : x = y
  · exact own_via (fun _ k => XS.icmpYes X.here hx (g := mkF m pc Ls (.int y :: .int x :: rest)) rfl (pc0 := pc) (pc' := pcT) rfl hd rfl (teq q).1 ho hT k) (kT q)
  · exact own_via (fun _ k => XS.icmpNo X.here hx (g := mkF m pc Ls (.int y :: .int x :: rest)) rfl hd rfl (feq q).1 k) (kF q)
theorem own_if_eq (X : Stand p l e R s m args below meth c T locs cells slots) (hx : p.tables.exec = Jvm.exec) {pc pcT pcF : Nat} {Ls : Array Slot} {rest : List Value} {x : Int32} {o : Int} (hd : decode c.code pc = .ok (.ifCond .eq o, 3)) (ho : 0 ≤ (pc : Int) + o) (hT : ((pc : Int) + o).toNat = pcT) (hF : pc + 3 = pcF) (kT : x = (0 : Int32) → own_Ends p e below Φ (T.setTop (mkF m pcT Ls rest))) (kF : ¬ x = (0 : Int32) → own_Ends p e below Φ (T.setTop (mkF m pcF Ls rest))) : own_Ends p e below Φ (T.setTop (mkF m pc Ls (.int x :: rest))) := by
  subst hF; by_cases q : x = (0 : Int32)
  · exact own_via (fun _ k => XS.ifYes X.here hx (g := mkF m pc Ls (.int x :: rest)) rfl (pc0 := pc) (pc' := pcT) rfl hd rfl ((if0 _ _).trans (teq q).1) ho hT k) (kT q)
  · exact own_via (fun _ k => XS.ifNo X.here hx (g := mkF m pc Ls (.int x :: rest)) rfl hd rfl ((if0 _ _).trans (feq q).1) k) (kF q)
theorem own_icmp_ne (X : Stand p l e R s m args below meth c T locs cells slots) (hx : p.tables.exec = Jvm.exec) {pc pcT pcF : Nat} {Ls : Array Slot} {rest : List Value} {x y : Int32} {o : Int} (hd : decode c.code pc = .ok (.if_icmp .ne o, 3)) (ho : 0 ≤ (pc : Int) + o) (hT : ((pc : Int) + o).toNat = pcT) (hF : pc + 3 = pcF) (kT : ¬ x = y → own_Ends p e below Φ (T.setTop (mkF m pcT Ls rest))) (kF : x = y → own_Ends p e below Φ (T.setTop (mkF m pcF Ls rest))) : own_Ends p e below Φ (T.setTop (mkF m pc Ls (.int y :: .int x :: rest))) := by
  subst hF; by_cases q : x = y
  · exact own_via (fun _ k => XS.icmpNo X.here hx (g := mkF m pc Ls (.int y :: .int x :: rest)) rfl hd rfl (teq q).2 k) (kF q)
  · exact own_via (fun _ k => XS.icmpYes X.here hx (g := mkF m pc Ls (.int y :: .int x :: rest)) rfl (pc0 := pc) (pc' := pcT) rfl hd rfl (feq q).2 ho hT k) (kT q)
theorem own_if_ne (X : Stand p l e R s m args below meth c T locs cells slots) (hx : p.tables.exec = Jvm.exec) {pc pcT pcF : Nat} {Ls : Array Slot} {rest : List Value} {x : Int32} {o : Int} (hd : decode c.code pc = .ok (.ifCond .ne o, 3)) (ho : 0 ≤ (pc : Int) + o) (hT : ((pc : Int) + o).toNat = pcT) (hF : pc + 3 = pcF) (kT : ¬ x = (0 : Int32) → own_Ends p e below Φ (T.setTop (mkF m pcT Ls rest))) (kF : x = (0 : Int32) → own_Ends p e below Φ (T.setTop (mkF m pcF Ls rest))) : own_Ends p e below Φ (T.setTop (mkF m pc Ls (.int x :: rest))) := by
  subst hF; by_cases q : x = (0 : Int32)
  · exact own_via (fun _ k => XS.ifNo X.here hx (g := mkF m pc Ls (.int x :: rest)) rfl hd rfl ((if0 _ _).trans (teq q).2) k) (kF q)
  · exact own_via (fun _ k => XS.ifYes X.here hx (g := mkF m pc Ls (.int x :: rest)) rfl (pc0 := pc) (pc' := pcT) rfl hd rfl ((if0 _ _).trans (feq q).2) ho hT k) (kT q)
theorem own_icmp_lt (X : Stand p l e R s m args below meth c T locs cells slots) (hx : p.tables.exec = Jvm.exec) {pc pcT pcF : Nat} {Ls : Array Slot} {rest : List Value} {x y : Int32} {o : Int} (hd : decode c.code pc = .ok (.if_icmp .lt o, 3)) (ho : 0 ≤ (pc : Int) + o) (hT : ((pc : Int) + o).toNat = pcT) (hF : pc + 3 = pcF) (kT : x < y → own_Ends p e below Φ (T.setTop (mkF m pcT Ls rest))) (kF : ¬ x < y → own_Ends p e below Φ (T.setTop (mkF m pcF Ls rest))) : own_Ends p e below Φ (T.setTop (mkF m pc Ls (.int y :: .int x :: rest))) := by
  subst hF; by_cases q : x < y
  · exact own_via (fun _ k => XS.icmpYes X.here hx (g := mkF m pc Ls (.int y :: .int x :: rest)) rfl (pc0 := pc) (pc' := pcT) rfl hd rfl (tlt q).1 ho hT k) (kT q)
  · exact own_via (fun _ k => XS.icmpNo X.here hx (g := mkF m pc Ls (.int y :: .int x :: rest)) rfl hd rfl (flt q).1 k) (kF q)
theorem own_if_lt (X : Stand p l e R s m args below meth c T locs cells slots) (hx : p.tables.exec = Jvm.exec) {pc pcT pcF : Nat} {Ls : Array Slot} {rest : List Value} {x : Int32} {o : Int} (hd : decode c.code pc = .ok (.ifCond .lt o, 3)) (ho : 0 ≤ (pc : Int) + o) (hT : ((pc : Int) + o).toNat = pcT) (hF : pc + 3 = pcF) (kT : x < (0 : Int32) → own_Ends p e below Φ (T.setTop (mkF m pcT Ls rest))) (kF : ¬ x < (0 : Int32) → own_Ends p e below Φ (T.setTop (mkF m pcF Ls rest))) : own_Ends p e below Φ (T.setTop (mkF m pc Ls (.int x :: rest))) := by
  subst hF; by_cases q : x < (0 : Int32)
  · exact own_via (fun _ k => XS.ifYes X.here hx (g := mkF m pc Ls (.int x :: rest)) rfl (pc0 := pc) (pc' := pcT) rfl hd rfl ((if0 _ _).trans (tlt q).1) ho hT k) (kT q)
  · exact own_via (fun _ k => XS.ifNo X.here hx (g := mkF m pc Ls (.int x :: rest)) rfl hd rfl ((if0 _ _).trans (flt q).1) k) (kF q)
theorem own_icmp_ge (X : Stand p l e R s m args below meth c T locs cells slots) (hx : p.tables.exec = Jvm.exec) {pc pcT pcF : Nat} {Ls : Array Slot} {rest : List Value} {x y : Int32} {o : Int} (hd : decode c.code pc = .ok (.if_icmp .ge o, 3)) (ho : 0 ≤ (pc : Int) + o) (hT : ((pc : Int) + o).toNat = pcT) (hF : pc + 3 = pcF) (kT : ¬ x < y → own_Ends p e below Φ (T.setTop (mkF m pcT Ls rest))) (kF : x < y → own_Ends p e below Φ (T.setTop (mkF m pcF Ls rest))) : own_Ends p e below Φ (T.setTop (mkF m pc Ls (.int y :: .int x :: rest))) := by
  subst hF; by_cases q : x < y
  · exact own_via (fun _ k => XS.icmpNo X.here hx (g := mkF m pc Ls (.int y :: .int x :: rest)) rfl hd rfl (tlt q).2.1 k) (kF q)
  · exact own_via (fun _ k => XS.icmpYes X.here hx (g := mkF m pc Ls (.int y :: .int x :: rest)) rfl (pc0 := pc) (pc' := pcT) rfl hd rfl (flt q).2.1 ho hT k) (kT q)
theorem own_if_ge (X : Stand p l e R s m args below meth c T locs cells slots) (hx : p.tables.exec = Jvm.exec) {pc pcT pcF : Nat} {Ls : Array Slot} {rest : List Value} {x : Int32} {o : Int} (hd : decode c.code pc = .ok (.ifCond .ge o, 3)) (ho : 0 ≤ (pc : Int) + o) (hT : ((pc : Int) + o).toNat = pcT) (hF : pc + 3 = pcF) (kT : ¬ x < (0 : Int32) → own_Ends p e below Φ (T.setTop (mkF m pcT Ls rest))) (kF : x < (0 : Int32) → own_Ends p e below Φ (T.setTop (mkF m pcF Ls rest))) : own_Ends p e below Φ (T.setTop (mkF m pc Ls (.int x :: rest))) := by
  subst hF; by_cases q : x < (0 : Int32)
  · exact own_via (fun _ k => XS.ifNo X.here hx (g := mkF m pc Ls (.int x :: rest)) rfl hd rfl ((if0 _ _).trans (tlt q).2.1) k) (kF q)
  · exact own_via (fun _ k => XS.ifYes X.here hx (g := mkF m pc Ls (.int x :: rest)) rfl (pc0 := pc) (pc' := pcT) rfl hd rfl ((if0 _ _).trans (flt q).2.1) ho hT k) (kT q)
theorem own_icmp_gt (X : Stand p l e R s m args below meth c T locs cells slots) (hx : p.tables.exec = Jvm.exec) {pc pcT pcF : Nat} {Ls : Array Slot} {rest : List Value} {x y : Int32} {o : Int} (hd : decode c.code pc = .ok (.if_icmp .gt o, 3)) (ho : 0 ≤ (pc : Int) + o) (hT : ((pc : Int) + o).toNat = pcT) (hF : pc + 3 = pcF) (kT : y < x → own_Ends p e below Φ (T.setTop (mkF m pcT Ls rest))) (kF : ¬ y < x → own_Ends p e below Φ (T.setTop (mkF m pcF Ls rest))) : own_Ends p e below Φ (T.setTop (mkF m pc Ls (.int y :: .int x :: rest))) := by
  subst hF; by_cases q : y < x
  · exact own_via (fun _ k => XS.icmpYes X.here hx (g := mkF m pc Ls (.int y :: .int x :: rest)) rfl (pc0 := pc) (pc' := pcT) rfl hd rfl (tlt q).2.2.1 ho hT k) (kT q)
  · exact own_via (fun _ k => XS.icmpNo X.here hx (g := mkF m pc Ls (.int y :: .int x :: rest)) rfl hd rfl (flt q).2.2.1 k) (kF q)
theorem own_if_gt (X : Stand p l e R s m args below meth c T locs cells slots) (hx : p.tables.exec = Jvm.exec) {pc pcT pcF : Nat} {Ls : Array Slot} {rest : List Value} {x : Int32} {o : Int} (hd : decode c.code pc = .ok (.ifCond .gt o, 3)) (ho : 0 ≤ (pc : Int) + o) (hT : ((pc : Int) + o).toNat = pcT) (hF : pc + 3 = pcF) (kT : (0 : Int32) < x → own_Ends p e below Φ (T.setTop (mkF m pcT Ls rest))) (kF : ¬ (0 : Int32) < x → own_Ends p e below Φ (T.setTop (mkF m pcF Ls rest))) : own_Ends p e below Φ (T.setTop (mkF m pc Ls (.int x :: rest))) := by
  subst hF; by_cases q : (0 : Int32) < x
  · exact own_via (fun _ k => XS.ifYes X.here hx (g := mkF m pc Ls (.int x :: rest)) rfl (pc0 := pc) (pc' := pcT) rfl hd rfl ((if0 _ _).trans (tlt q).2.2.1) ho hT k) (kT q)
  · exact own_via (fun _ k => XS.ifNo X.here hx (g := mkF m pc Ls (.int x :: rest)) rfl hd rfl ((if0 _ _).trans (flt q).2.2.1) k) (kF q)
theorem own_icmp_le (X : Stand p l e R s m args below meth c T locs cells slots) (hx : p.tables.exec = Jvm.exec) {pc pcT pcF : Nat} {Ls : Array Slot} {rest : List Value} {x y : Int32} {o : Int} (hd : decode c.code pc = .ok (.if_icmp .le o, 3)) (ho : 0 ≤ (pc : Int) + o) (hT : ((pc : Int) + o).toNat = pcT) (hF : pc + 3 = pcF) (kT : ¬ y < x → own_Ends p e below Φ (T.setTop (mkF m pcT Ls rest))) (kF : y < x → own_Ends p e below Φ (T.setTop (mkF m pcF Ls rest))) : own_Ends p e below Φ (T.setTop (mkF m pc Ls (.int y :: .int x :: rest))) := by
  subst hF; by_cases q : y < x
  · exact own_via (fun _ k => XS.icmpNo X.here hx (g := mkF m pc Ls (.int y :: .int x :: rest)) rfl hd rfl (tlt q).2.2.2 k) (kF q)
  · exact own_via (fun _ k => XS.icmpYes X.here hx (g := mkF m pc Ls (.int y :: .int x :: rest)) rfl (pc0 := pc) (pc' := pcT) rfl hd rfl (flt q).2.2.2 ho hT k) (kT q)
theorem own_if_le (X : Stand p l e R s m args below meth c T locs cells slots) (hx : p.tables.exec = Jvm.exec) {pc pcT pcF : Nat} {Ls : Array Slot} {rest : List Value} {x : Int32} {o : Int} (hd : decode c.code pc = .ok (.ifCond .le o, 3)) (ho : 0 ≤ (pc : Int) + o) (hT : ((pc : Int) + o).toNat = pcT) (hF : pc + 3 = pcF) (kT : ¬ (0 : Int32) < x → own_Ends p e below Φ (T.setTop (mkF m pcT Ls rest))) (kF : (0 : Int32) < x → own_Ends p e below Φ (T.setTop (mkF m pcF Ls rest))) : own_Ends p e below Φ (T.setTop (mkF m pc Ls (.int x :: rest))) := by
  subst hF; by_cases q : (0 : Int32) < x
  · exact own_via (fun _ k => XS.ifNo X.here hx (g := mkF m pc Ls (.int x :: rest)) rfl hd rfl ((if0 _ _).trans (tlt q).2.2.2) k) (kF q)
  · exact own_via (fun _ k => XS.ifYes X.here hx (g := mkF m pc Ls (.int x :: rest)) rfl (pc0 := pc) (pc' := pcT) rfl hd rfl ((if0 _ _).trans (flt q).2.2.2) ho hT k) (kT q)
theorem own_icmpT (X : Stand p l e R s m args below meth c T locs cells slots) (hx : p.tables.exec = Jvm.exec) {pc pcT : Nat} {Ls : Array Slot} {rest : List Value} {x y : Int32} {cd : ClassFile.Cond} {o : Int} (hd : decode c.code pc = .ok (.if_icmp cd o, 3)) (ho : 0 ≤ (pc : Int) + o) (hT : ((pc : Int) + o).toNat = pcT) (q : if_icmp.holds cd x y = true) (h : own_Ends p e below Φ (T.setTop (mkF m pcT Ls rest))) : own_Ends p e below Φ (T.setTop (mkF m pc Ls (.int y :: .int x :: rest))) :=
  own_via (fun _ k => XS.icmpYes X.here hx (g := mkF m pc Ls (.int y :: .int x :: rest)) rfl (pc0 := pc) (pc' := pcT) rfl hd rfl q ho hT k) h
theorem own_icmpF (X : Stand p l e R s m args below meth c T locs cells slots) (hx : p.tables.exec = Jvm.exec) {pc pcF : Nat} {Ls : Array Slot} {rest : List Value} {x y : Int32} {cd : ClassFile.Cond} {o : Int} (hd : decode c.code pc = .ok (.if_icmp cd o, 3)) (hF : pc + 3 = pcF) (q : if_icmp.holds cd x y = false) (h : own_Ends p e below Φ (T.setTop (mkF m pcF Ls rest))) : own_Ends p e below Φ (T.setTop (mkF m pc Ls (.int y :: .int x :: rest))) := by
  subst hF; exact own_via (fun _ k => XS.icmpNo X.here hx (g := mkF m pc Ls (.int y :: .int x :: rest)) rfl hd rfl q k) h
theorem own_ifT (X : Stand p l e R s m args below meth c T locs cells slots) (hx : p.tables.exec = Jvm.exec) {pc pcT : Nat} {Ls : Array Slot} {rest : List Value} {x : Int32} {cd : ClassFile.Cond} {o : Int} (hd : decode c.code pc = .ok (.ifCond cd o, 3)) (ho : 0 ≤ (pc : Int) + o) (hT : ((pc : Int) + o).toNat = pcT) (q : if_icmp.holds cd x 0 = true) (h : own_Ends p e below Φ (T.setTop (mkF m pcT Ls rest))) : own_Ends p e below Φ (T.setTop (mkF m pc Ls (.int x :: rest))) :=
  own_via (fun _ k => XS.ifYes X.here hx (g := mkF m pc Ls (.int x :: rest)) rfl (pc0 := pc) (pc' := pcT) rfl hd rfl ((if0 _ _).trans q) ho hT k) h
theorem own_ifF (X : Stand p l e R s m args below meth c T locs cells slots) (hx : p.tables.exec = Jvm.exec) {pc pcF : Nat} {Ls : Array Slot} {rest : List Value} {x : Int32} {cd : ClassFile.Cond} {o : Int} (hd : decode c.code pc = .ok (.ifCond cd o, 3)) (hF : pc + 3 = pcF) (q : if_icmp.holds cd x 0 = false) (h : own_Ends p e below Φ (T.setTop (mkF m pcF Ls rest))) : own_Ends p e below Φ (T.setTop (mkF m pc Ls (.int x :: rest))) := by
  subst hF; exact own_via (fun _ k => XS.ifNo X.here hx (g := mkF m pc Ls (.int x :: rest)) rfl hd rfl ((if0 _ _).trans q) k) h
theorem own_ifnullT (X : Stand p l e R s m args below meth c T locs cells slots) (hx : p.tables.exec = Jvm.exec) {pc pcT : Nat} {Ls : Array Slot} {rest : List Value} {o : Int} (hd : decode c.code pc = .ok (.ifnull o, 3)) (ho : 0 ≤ (pc : Int) + o) (hT : ((pc : Int) + o).toNat = pcT) (h : own_Ends p e below Φ (T.setTop (mkF m pcT Ls rest))) : own_Ends p e below Φ (T.setTop (mkF m pc Ls (.null :: rest))) :=
  own_via (fun _ k => XS.ifnullYes X.here hx (g := mkF m pc Ls (.null :: rest)) rfl (pc0 := pc) (pc' := pcT) rfl hd rfl ho hT k) h
theorem own_ifnullF (X : Stand p l e R s m args below meth c T locs cells slots) (hx : p.tables.exec = Jvm.exec) {pc pcF : Nat} {Ls : Array Slot} {rest : List Value} {b : Addr} {o : Int} (hd : decode c.code pc = .ok (.ifnull o, 3)) (hF : pc + 3 = pcF) (h : own_Ends p e below Φ (T.setTop (mkF m pcF Ls rest))) : own_Ends p e below Φ (T.setTop (mkF m pc Ls (.ref b :: rest))) := by
  subst hF; exact own_via (fun _ k => XS.ifnullNo X.here hx (g := mkF m pc Ls (.ref b :: rest)) rfl hd rfl k) h
theorem own_ifnonnullT (X : Stand p l e R s m args below meth c T locs cells slots) (hx : p.tables.exec = Jvm.exec) {pc pcT : Nat} {Ls : Array Slot} {rest : List Value} {b : Addr} {o : Int} (hd : decode c.code pc = .ok (.ifnonnull o, 3)) (ho : 0 ≤ (pc : Int) + o) (hT : ((pc : Int) + o).toNat = pcT) (h : own_Ends p e below Φ (T.setTop (mkF m pcT Ls rest))) : own_Ends p e below Φ (T.setTop (mkF m pc Ls (.ref b :: rest))) :=
  own_via (fun _ k => XS.ifnonnullYes X.here hx (g := mkF m pc Ls (.ref b :: rest)) rfl (pc0 := pc) (pc' := pcT) rfl hd rfl ho hT k) h
theorem own_ifnonnullF (X : Stand p l e R s m args below meth c T locs cells slots) (hx : p.tables.exec = Jvm.exec) {pc pcF : Nat} {Ls : Array Slot} {rest : List Value} {o : Int} (hd : decode c.code pc = .ok (.ifnonnull o, 3)) (hF : pc + 3 = pcF) (h : own_Ends p e below Φ (T.setTop (mkF m pcF Ls rest))) : own_Ends p e below Φ (T.setTop (mkF m pc Ls (.null :: rest))) := by
  subst hF; exact own_via (fun _ k => XS.ifnonnullNo X.here hx (g := mkF m pc Ls (.null :: rest)) rfl hd rfl k) h
theorem own_acmp (X : Stand p l e R s m args below meth c T locs cells slots) (hx : p.tables.exec = Jvm.exec) {pc pcT pcF : Nat} {Ls : Array Slot} {rest : List Value} {x y : Value} {cd : ClassFile.ACond} {o : Int} (hd : decode c.code pc = .ok (.if_acmp cd o, 3)) (h1 : x.isRef = true) (h2 : y.isRef = true) (ho : 0 ≤ (pc : Int) + o) (hT : ((pc : Int) + o).toNat = pcT) (hF : pc + 3 = pcF)
    (kT : acV cd (decide (x = y)) = true → own_Ends p e below Φ (T.setTop (mkF m pcT Ls rest))) (kF : acV cd (decide (x = y)) = false → own_Ends p e below Φ (T.setTop (mkF m pcF Ls rest))) : own_Ends p e below Φ (T.setTop (mkF m pc Ls (y :: x :: rest))) := by
  subst hF hT
  rcases q : acV cd (decide (x = y)) with _ | _
  · exact own_via (fun _ k => Jvm.RoadKit.acmp (g := mkF m pc Ls (y :: x :: rest)) X hx rfl h1 h2 (pc0 := pc) (pc' := pc + 3) rfl hd rfl rfl ho (by rw [q]; rfl) k) (kF q)
  · exact own_via (fun _ k => Jvm.RoadKit.acmp (g := mkF m pc Ls (y :: x :: rest)) X hx rfl h1 h2 (pc0 := pc) (pc' := ((pc : Int) + o).toNat) rfl hd rfl rfl ho (by rw [q]; rfl) k) (kT q)
theorem own_acmp_eq (X : Stand p l e R s m args below meth c T locs cells slots) (hx : p.tables.exec = Jvm.exec) {pc pcT pcF : Nat} {Ls : Array Slot} {rest : List Value} {x y : Addr} {o : Int} (hd : decode c.code pc = .ok (.if_acmp .eq o, 3)) (ho : 0 ≤ (pc : Int) + o) (hT : ((pc : Int) + o).toNat = pcT) (hF : pc + 3 = pcF)
    (kT : x = y → own_Ends p e below Φ (T.setTop (mkF m pcT Ls rest))) (kF : ¬ x = y → own_Ends p e below Φ (T.setTop (mkF m pcF Ls rest))) : own_Ends p e below Φ (T.setTop (mkF m pc Ls (.ref y :: .ref x :: rest))) :=
  own_acmp X hx hd rfl rfl ho hT hF (fun q => kT (by simpa [acV] using q)) (fun q => kF (by simpa [acV] using q))
theorem own_acmp_ne (X : Stand p l e R s m args below meth c T locs cells slots) (hx : p.tables.exec = Jvm.exec) {pc pcT pcF : Nat} {Ls : Array Slot} {rest : List Value} {x y : Addr} {o : Int} (hd : decode c.code pc = .ok (.if_acmp .ne o, 3)) (ho : 0 ≤ (pc : Int) + o) (hT : ((pc : Int) + o).toNat = pcT) (hF : pc + 3 = pcF)
    (kT : ¬ x = y → own_Ends p e below Φ (T.setTop (mkF m pcT Ls rest))) (kF : x = y → own_Ends p e below Φ (T.setTop (mkF m pcF Ls rest))) : own_Ends p e below Φ (T.setTop (mkF m pc Ls (.ref y :: .ref x :: rest))) :=
  own_acmp X hx hd rfl rfl ho hT hF (fun q => kT (by simpa [acV] using q)) (fun q => kF (by simpa [acV] using q))
theorem own_ldcInt (X : Stand p l e R s m args below meth c T locs cells slots) (hx : p.tables.exec = Jvm.exec) (hZ : Z.Warmed39 s.vm) {own : String} {index : Nat} {v : Int32} (hown : s.vm.findClass own = some m.cls) (w : (Jvm.Cond.constant own index v).before a0 Z = true) {pc pc' : Nat} {Ls : Array Slot} {rest : List Value} (hd : decode c.code pc = .ok (.ldc index, 2)) (hp : pc + 2 = pc') (h : own_Ends p e below Φ (T.setTop (mkF m pc' Ls (.int v :: rest)))) : own_Ends p e below Φ (T.setTop (mkF m pc Ls rest)) := by
  subst hp; exact own_via (X.ldcInt hx hown (mvT hZ w) (g := mkF m pc Ls rest) rfl hd) h
theorem own_getF (X : Stand p l e R s m args below meth c T locs cells slots) (hx : p.tables.exec = Jvm.exec) (hZ : Z.Warmed39 s.vm) {own R0 O n d host : String} {index : Nat} (hown : s.vm.findClass own = some m.cls) (w : (Jvm.Cond.fieldLink own index R0 n d).before a0 Z = true ∨ (Jvm.Cond.fieldLinkNest own index R0 n d host).before a0 Z = true) (via : Via Z R0 O n d) (eT : T.heap = h) {a : Addr} {v : Value} (F : Fld Z h a O n d v) {pc pc' : Nat} {Ls : Array Slot} {rest : List Value}
    (hd : decode c.code pc = .ok (.getfield index, 3)) (hp : pc + 3 = pc') (k : ∀ T', Stand p l e R s m args below meth c T' locs cells slots → T'.heap = h → own_Ends p e below Φ (T'.setTop (mkF m pc' Ls (v :: rest)))) : own_Ends p e below Φ (T.setTop (mkF m pc Ls (.ref a :: rest))) := by
  subst hp; obtain ⟨T', X', e', st⟩ := getF X hx hZ hown w via eT F (g := mkF m pc Ls (.ref a :: rest)) rfl rfl hd
  exact own_via st (k T' X' e')
theorem own_getS (X : Stand p l e R s m args below meth c T locs cells slots) (hx : p.tables.exec = Jvm.exec) (hZ : Z.Warmed39 s.vm) {own R0 O n d host : String} {index : Nat} (hown : s.vm.findClass own = some m.cls) (w : (Jvm.Cond.fieldLink own index R0 n d).before a0 Z = true ∨ (Jvm.Cond.fieldLinkNest own index R0 n d host).before a0 Z = true) (via : Via Z R0 O n d) (eT : T.heap = h) {v : Value} (F : Sta Z h O n d v) {pc pc' : Nat} {Ls : Array Slot} {rest : List Value}
    (hd : decode c.code pc = .ok (.getstatic index, 3)) (hp : pc + 3 = pc') (k : ∀ T', Stand p l e R s m args below meth c T' locs cells slots → T'.heap = h → own_Ends p e below Φ (T'.setTop (mkF m pc' Ls (v :: rest)))) : own_Ends p e below Φ (T.setTop (mkF m pc Ls rest)) := by
  subst hp; obtain ⟨T', X', e', st⟩ := getS2 X hx hZ hown w via eT F (g := mkF m pc Ls rest) rfl hd
  exact own_via st (k T' X' e')
theorem own_putF (X : Stand p l e R s m args below meth c T locs cells slots) (hx : p.tables.exec = Jvm.exec) (hZ : Z.Warmed39 s.vm) {own R0 O n d host C : String} {index kk : Nat} {ty : FieldType} (hown : s.vm.findClass own = some m.cls) (w : (Jvm.Cond.fieldLink own index R0 n d).before a0 Z = true ∨ (Jvm.Cond.fieldLinkNest own index R0 n d host).before a0 Z = true) (via : Via Z R0 O n d) (eT : T.heap = h) {a : Addr} {v old : Value} (F : Fld Z h a O n d old) (E : Exa Z h a C)
    (L : (Jvm.Cond.lays C O n d).before a0 Z = true ∨ ((Jvm.Cond.laysFinal C O n d).before a0 Z = true ∧ own = O ∧ meth.name = "<init>")) (wi : (Jvm.Cond.instantiable C kk).before a0 Z = true) (hty : parseFieldDescriptor d = some ty) (hn : narrow ty v = v) (hf : fits ty v = true) {n0 : Nat} (N : Fr n0 locs) (g : n0 ≤ a) {pc pc' : Nat} {Ls : Array Slot} {rest : List Value}
    (hd : decode c.code pc = .ok (.putfield index, 3)) (hp : pc + 3 = pc') (k : ∀ T' h', Stand p l e R s m args below meth c T' (locs ++ [⟨a, Jvm.RoadKit.slotOf Z O n d⟩]) cells slots → T'.heap = h' → Wr h h' a (Jvm.RoadKit.slotOf Z O n d) v → Fr n0 (locs ++ [⟨a, Jvm.RoadKit.slotOf Z O n d⟩]) → own_Ends p e below Φ (T'.setTop (mkF m pc' Ls rest))) : own_Ends p e below Φ (T.setTop (mkF m pc Ls (v :: .ref a :: rest))) := by
  subst hp; obtain ⟨T', h', X', e', W', st⟩ := putF X hx hZ hown w via eT F E L wi hty hn hf (g := mkF m pc Ls (v :: .ref a :: rest)) rfl rfl hd
  exact own_via st (k T' h' X' e' W' (Fr.snoc X' N g))
theorem own_putFN (X : Stand p l e R s m args below meth c T locs cells slots) (hx : p.tables.exec = Jvm.exec) (hZ : Z.Warmed39 s.vm) {own R0 O n d C : String} {index kk : Nat} {ty : FieldType} (hown : s.vm.findClass own = some m.cls) (w : (Jvm.Cond.fieldLink own index R0 n d).before a0 Z = true) (via : Via Z R0 O n d) (eT : T.heap = h) {a : Addr} {v old : Value} (v' : Value) (F : Fld Z h a O n d old) (E : Exa Z h a C)
    (L : (Jvm.Cond.lays C O n d).before a0 Z = true ∨ ((Jvm.Cond.laysFinal C O n d).before a0 Z = true ∧ own = O ∧ meth.name = "<init>")) (wi : (Jvm.Cond.instantiable C kk).before a0 Z = true) (hty : parseFieldDescriptor d = some ty) (hn : narrow ty v = v') (hf : fits ty v' = true) {n0 : Nat} (N : Fr n0 locs) (g : n0 ≤ a) {pc pc' : Nat} {Ls : Array Slot} {rest : List Value}
    (hd : decode c.code pc = .ok (.putfield index, 3)) (hp : pc + 3 = pc') (k : ∀ T' h', Stand p l e R s m args below meth c T' (locs ++ [⟨a, Jvm.RoadKit.slotOf Z O n d⟩]) cells slots → T'.heap = h' → Wr h h' a (Jvm.RoadKit.slotOf Z O n d) v' → Fr n0 (locs ++ [⟨a, Jvm.RoadKit.slotOf Z O n d⟩]) → own_Ends p e below Φ (T'.setTop (mkF m pc' Ls rest))) : own_Ends p e below Φ (T.setTop (mkF m pc Ls (v :: .ref a :: rest))) := by
  subst hp; obtain ⟨T', h', X', e', W', st⟩ := putFN X hx hZ hown w via eT F E L wi hty hn hf (g := mkF m pc Ls (v :: .ref a :: rest)) rfl rfl hd
  exact own_via st (k T' h' X' e' W' (Fr.snoc X' N g))
theorem own_new (X : Stand p l e R s m args below meth c T locs cells slots) (hx : p.tables.exec = Jvm.exec) (hZ : Z.Warmed39 s.vm) {own C : String} {index n : Nat} (hown : s.vm.findClass own = some m.cls) (w : (Jvm.Cond.classLink own index C).before a0 Z = true) (wi : (Jvm.Cond.instantiable C n).before a0 Z = true) (wz : (Jvm.Cond.initialized C).before a0 Z = true) (eT : T.heap = h) {pc pc' : Nat} {Ls : Array Slot} {rest : List Value}
    (hd : decode c.code pc = .ok (.new index, 3)) (hc : cells + 1 ≤ R.cells) (hl : slots + n ≤ R.slots) (hp : pc + 3 = pc')
    (k : ∀ T' h' b, Stand p l e R s m args below meth c T' locs (cells + 1) (slots + n) → T'.heap = h' → b = h.size → Ext h h' → Exa Z h' b C → (∀ {O nm d : String} {ty : FieldType}, Laid Z a0 C O nm d → parseFieldDescriptor d = some ty → Fld Z h' b O nm d (defaultValue ty)) → own_Ends p e below Φ (T'.setTop (mkF m pc' Ls (.ref b :: rest)))) : own_Ends p e below Φ (T.setTop (mkF m pc Ls rest)) := by
  subst hp; obtain ⟨T', h', X', e', E', A', D', -, st⟩ := newO X hx hZ hown w wi wz eT (g := mkF m pc Ls rest) rfl hd hc hl
  exact own_via st (k T' h' _ X' e' rfl E' A' D')
theorem own_initO (X : Stand p l e R s m args below meth c T locs cells slots) (hx : p.tables.exec = Jvm.exec) (hZ : Z.Warmed39 s.vm) {own : String} {idx : Nat} (hown : s.vm.findClass own = some m.cls) (w1 : (Jvm.Cond.methodLink own idx Lib.objectInit).before a0 Z = true) (w2 : (Jvm.Cond.instanceMethod Lib.objectInit).before a0 Z = true) (w3 : (Jvm.Cond.code Lib.objectInit ⟨#[0xb1]⟩ 1 none).before a0 Z = true) (eT : T.heap = h) {a : Addr} {pc pc' : Nat} {Ls : Array Slot} {rest : List Value} (hsize : Ls.size = c.maxLocals)
    (hd : decode c.code pc = .ok (.invokespecial idx, 3)) (W : Nat) (hW : (rest.map fun v => v.category).sum = W) (hf : 1 ≤ R.frames) (hl : W + 12 ≤ R.locals) (hp : pc + 3 = pc') (k : ∀ T', Stand p l e R s m args below meth c T' locs cells slots → T'.heap = h → own_Ends p e below Φ (T'.setTop (mkF m pc' Ls rest))) : own_Ends p e below Φ (T.setTop (mkF m pc Ls (.ref a :: rest))) := by
  subst hp; obtain ⟨T', X', e', st⟩ := initO X hx hZ hown w1 w2 w3 eT (g := mkF m pc Ls (.ref a :: rest)) rfl hsize rfl hd hf (W := W) (by rw [← hW]; show 2 * 0 + _ ≤ _; omega) hl
  exact own_via st (k T' X' e')
theorem own_static (X : Stand p l e R s m args below meth c T locs cells slots) (hx : p.tables.exec = Jvm.exec) (hZ : Z.Warmed39 s.vm) {own : String} {index : Nat} {y : MethodName} {bytes : ByteArray} {maxL : Nat} {ret : Option FieldType} {rm : Room} {Q : Option Value → Heap → List Loc → Prop} (hown : s.vm.findClass own = some m.cls) (w1 : (Jvm.Cond.methodLink own index y).before a0 Z = true) (w2 : (Jvm.Cond.static y).before a0 Z = true) (w3 : (Jvm.Cond.initialized y.cls).before a0 Z = true) (w4 : (Jvm.Cond.code y bytes maxL ret).before a0 Z = true) (hy : y.cls ≠ "java/lang/invoke/MethodHandle" ∧ y.cls ≠ "java/lang/invoke/VarHandle") (eT : T.heap = h) (hf : rm.frames + 1 ≤ R.frames) {W : Nat} (hl : W + (maxL + 11) + rm.locals ≤ R.locals) (hc : cells + rm.cells ≤ R.cells) (hs : slots + rm.slots ≤ R.slots) {pc pc' : Nat} {Ls : Array Slot} (argsL rest : List Value) {st : List Value} (hsize : Ls.size = c.maxLocals) (hM : own_Met l y bytes maxL ret rm Z argsL.toArray h Q)
    {ps : List FieldType} {r : Option FieldType} (hpd : parseMethodDescriptor y.desc = some ⟨ps, r⟩) (hlen : argsL.length = ps.length) (hst : st = argsL.reverse ++ rest) (hW : (rest.map fun v => v.category).sum = W) (hd : decode c.code pc = .ok (.invokestatic index, 3)) (hp : pc + 3 = pc') (k : ∀ v T' L, Stand p l e R s m args below meth c T' (locs ++ L) (cells + rm.cells) (slots + rm.slots) → Q v T'.heap L → own_Ends p e below Φ (T'.setTop (mkF m pc' Ls (v.toList ++ rest)))) : own_Ends p e below Φ (T.setTop (mkF m pc Ls st)) := by
  subst hp
  obtain ⟨v, _, ⟨T', L', k', n'⟩, -, X', ⟨Lc, hQ, e1, e2, e3⟩, st'⟩ := Jvm.LawKit.callS X hx (y := y) hown (mvT hZ w1) (mvT hZ w2) (mvT hZ w3) (mvT hZ w4) hy (backOf (W := W) (hM []) hZ w4 w3 hf hl) (g := mkF m pc Ls st) rfl hsize (argsL := argsL) (rest := rest) (lenOf hpd hlen) hst (by rw [← hW]; show 2 * 0 + _ ≤ _; omega) hd (fun _ _ => ⟨rfl, eT, hc, hs⟩)
  dsimp only [Pt.U, Pt.locs, Pt.cells, Pt.slots] at X' e1 e2 e3 st' hQ
  subst e1 e2 e3
  exact own_via st' (k v T' Lc X' hQ)
theorem own_special (X : Stand p l e R s m args below meth c T locs cells slots) (hx : p.tables.exec = Jvm.exec) (hZ : Z.Warmed39 s.vm) {own : String} {index : Nat} {y : MethodName} {bytes : ByteArray} {maxL : Nat} {rm : Room} {Q : Option Value → Heap → List Loc → Prop} (hy1 : y.name = "<init>") (hown : s.vm.findClass own = some m.cls) (w1 : (Jvm.Cond.methodLink own index y).before a0 Z = true) (w2 : (Jvm.Cond.instanceMethod y).before a0 Z = true) (w3 : (Jvm.Cond.initialized y.cls).before a0 Z = true) (w4 : (Jvm.Cond.code y bytes maxL none).before a0 Z = true) (hy : y.cls ≠ "java/lang/invoke/MethodHandle" ∧ y.cls ≠ "java/lang/invoke/VarHandle") (eT : T.heap = h) (hf : rm.frames + 1 ≤ R.frames) {W : Nat} (hl : W + (maxL + 11) + rm.locals ≤ R.locals) (hc : cells + rm.cells ≤ R.cells) (hs : slots + rm.slots ≤ R.slots) {pc pc' : Nat} {Ls : Array Slot} (argsL rest : List Value) {st : List Value} (hsize : Ls.size = c.maxLocals) {a : Addr} (hM : own_Met l y bytes maxL none rm Z (.ref a :: argsL).toArray h Q)
    {ps : List FieldType} {r : Option FieldType} (hpd : parseMethodDescriptor y.desc = some ⟨ps, r⟩) (hlen : argsL.length = ps.length) (hst : st = argsL.reverse ++ .ref a :: rest) (hW : (rest.map fun v => v.category).sum = W) (hd : decode c.code pc = .ok (.invokespecial index, 3)) (hp : pc + 3 = pc') (k : ∀ v T' L, Stand p l e R s m args below meth c T' (locs ++ L) (cells + rm.cells) (slots + rm.slots) → Q v T'.heap L → own_Ends p e below Φ (T'.setTop (mkF m pc' Ls (v.toList ++ rest)))) : own_Ends p e below Φ (T.setTop (mkF m pc Ls st)) := by
  subst hp
  obtain ⟨v, _, ⟨T', L', k', n'⟩, -, X', ⟨Lc, hQ, e1, e2, e3⟩, st'⟩ := X.specialBack hx (y := y) hy1 hown (mvT hZ w1) (mvT hZ w2) (mvT hZ w4) hy (backOf (W := W) (hM []) hZ w4 w3 hf hl) (g := mkF m pc Ls st) rfl hsize (Steps.refl _) (a := a) (argsL := argsL) (rest := rest) (lenOf hpd hlen) hst (by rw [← hW]; show 2 * 0 + _ ≤ _; omega) hd (fun _ _ => ⟨rfl, eT, hc, hs⟩)
  dsimp only [Pt.U, Pt.locs, Pt.cells, Pt.slots] at X' e1 e2 e3 st' hQ
  subst e1 e2 e3
  exact own_thru st' (k v T' Lc X' hQ)
theorem own_virtual (X : Stand p l e R s m args below meth c T locs cells slots) (hx : p.tables.exec = Jvm.exec) (hZ : Z.Warmed39 s.vm) {own C : String} {index : Nat} {y z : MethodName} {bytes : ByteArray} {maxL : Nat} {ret : Option FieldType} {rm : Room} {Q : Option Value → Heap → List Loc → Prop} (hown : s.vm.findClass own = some m.cls) (w1 : (Jvm.Cond.methodLink own index y).before a0 Z = true) (w2 : (Jvm.Cond.declares y).before a0 Z = true) (hnf : NotFace s y) (w3 : (Jvm.Cond.selects C y z).before a0 Z = true) (w4 : (Jvm.Cond.instanceMethod z).before a0 Z = true) (w5 : (Jvm.Cond.initialized z.cls).before a0 Z = true) (w6 : (Jvm.Cond.code z bytes maxL ret).before a0 Z = true) (hy : y.cls ≠ "java/lang/invoke/MethodHandle" ∧ y.cls ≠ "java/lang/invoke/VarHandle") (eT : T.heap = h) (hf : rm.frames + 1 ≤ R.frames) {W : Nat} (hl : W + (maxL + 11) + rm.locals ≤ R.locals) (hc : cells + rm.cells ≤ R.cells) (hs : slots + rm.slots ≤ R.slots) {pc pc' : Nat} {Ls : Array Slot} (argsL rest : List Value) {st : List Value} (hsize : Ls.size = c.maxLocals) {a : Addr} (E : Exa Z h a C) (hM : own_Met l z bytes maxL ret rm Z (.ref a :: argsL).toArray h Q)
    {ps : List FieldType} {r : Option FieldType} (hpd : parseMethodDescriptor y.desc = some ⟨ps, r⟩) (hlen : argsL.length = ps.length) (hst : st = argsL.reverse ++ .ref a :: rest) (hW : (rest.map fun v => v.category).sum = W) (hd : decode c.code pc = .ok (.invokevirtual index, 3)) (hp : pc + 3 = pc') (k : ∀ v T' L, Stand p l e R s m args below meth c T' (locs ++ L) (cells + rm.cells) (slots + rm.slots) → Q v T'.heap L → own_Ends p e below Φ (T'.setTop (mkF m pc' Ls (v.toList ++ rest)))) : own_Ends p e below Φ (T.setTop (mkF m pc Ls st)) := by
  subst hp
  obtain ⟨cq, kq, q1, q2, q3⟩ := isOf hZ eT E
  obtain ⟨v, _, ⟨T', L', k', n'⟩, -, X', ⟨Lc, hQ, e1, e2, e3⟩, st'⟩ := X.virtualBack hx (y := y) (z := z) hown (mvT hZ w1) (mvT hZ w2) hnf (mvT hZ w3) (mvT hZ w4) hy (backOf (W := W) (hM []) hZ w6 w5 hf hl) q1 q3 (g := mkF m pc Ls st) rfl hsize (Steps.refl _) (argsL := argsL) (rest := rest) (lenOf hpd hlen) hst (by rw [← hW]; show 2 * 0 + _ ≤ _; omega) hd (fun _ _ => ⟨rfl, eT, hc, hs⟩)
  dsimp only [Pt.U, Pt.locs, Pt.cells, Pt.slots] at X' e1 e2 e3 st' hQ
  subst e1 e2 e3
  exact own_thru st' (k v T' Lc X' hQ)
theorem own_private (X : Stand p l e R s m args below meth c T locs cells slots) (hx : p.tables.exec = Jvm.exec) (hZ : Z.Warmed39 s.vm) {own : String} {index : Nat} {y : MethodName} {bytes : ByteArray} {maxL : Nat} {ret : Option FieldType} {rm : Room} {Q : Option Value → Heap → List Loc → Prop} (hown : s.vm.findClass own = some m.cls) (w1 : (Jvm.Cond.methodLink own index y).before a0 Z = true) (hnf : ∀ c k, s.vm.findClass y.cls = some c → s.vm.classes[c]? = some k → k.isInterface = false) (w4 : (Jvm.Cond.instanceMethod y).before a0 Z = true) (wp : (Jvm.Cond.privateMethod y).before a0 Z = true) (w5 : (Jvm.Cond.initialized y.cls).before a0 Z = true) (w6 : (Jvm.Cond.code y bytes maxL ret).before a0 Z = true) (hy : y.cls ≠ "java/lang/invoke/MethodHandle" ∧ y.cls ≠ "java/lang/invoke/VarHandle") (eT : T.heap = h) (hf : rm.frames + 1 ≤ R.frames) {W : Nat} (hl : W + (maxL + 11) + rm.locals ≤ R.locals) (hc : cells + rm.cells ≤ R.cells) (hs : slots + rm.slots ≤ R.slots) {pc pc' : Nat} {Ls : Array Slot} (argsL rest : List Value) {st : List Value} (hsize : Ls.size = c.maxLocals) {a : Addr} {C : String} (E : Exa Z h a C) (hM : own_Met l y bytes maxL ret rm Z (.ref a :: argsL).toArray h Q)
    {ps : List FieldType} {r : Option FieldType} (hpd : parseMethodDescriptor y.desc = some ⟨ps, r⟩) (hlen : argsL.length = ps.length) (hst : st = argsL.reverse ++ .ref a :: rest) (hW : (rest.map fun v => v.category).sum = W) (hd : decode c.code pc = .ok (.invokevirtual index, 3)) (hp : pc + 3 = pc') (k : ∀ v T' L, Stand p l e R s m args below meth c T' (locs ++ L) (cells + rm.cells) (slots + rm.slots) → Q v T'.heap L → own_Ends p e below Φ (T'.setTop (mkF m pc' Ls (v.toList ++ rest)))) : own_Ends p e below Φ (T.setTop (mkF m pc Ls st)) := by
  subst hp
  obtain ⟨cl, q1, q2⟩ := E.cell
  have hpr := Cond.privateMethod_at (mvP hZ wp (args := args))
  have hin : (Jvm.Cond.instanceMethod y).before args s = true := mvT hZ w4
  obtain ⟨mk, methM, hnamed, hmethM, -, -⟩ := Cond.instanceMethod_spec hin
  obtain ⟨kk, hkk, -⟩ := className_of_methodNamed hnamed
  have hfc := findClass_of_methodNamed hnamed
  have hsel := selects_self_of_private (args := args) hfc hkk (hnf _ _ hfc hkk) hpr hin hy
  obtain ⟨v, _, ⟨T', L', k', n'⟩, -, X', ⟨Lc, hQ, e1, e2, e3⟩, st'⟩ := X.privateBack hx (y := y) hown (mvT hZ w1) hin hsel hpr (mvT hZ w6) hy (backOf (W := W) (hM []) hZ w6 w5 hf hl) (g := mkF m pc Ls st) rfl hsize (Steps.refl _) (a := a) (by rw [eT]; exact q1) q2 (argsL := argsL) (rest := rest) (lenOf hpd hlen) hst (by rw [← hW]; show 2 * 0 + _ ≤ _; omega) hd (fun _ _ => ⟨rfl, eT, hc, hs⟩)
  dsimp only [Pt.U, Pt.locs, Pt.cells, Pt.slots] at X' e1 e2 e3 st' hQ
  subst e1 e2 e3
  exact own_thru st' (k v T' Lc X' hQ)
theorem own_nf (hZ : Z.Warmed39 s.vm) {C : String} {y z : MethodName} (w : (Jvm.Cond.selects C y z).before a0 Z = true) : ∀ c k, s.vm.findClass z.cls = some c → s.vm.classes[c]? = some k → k.isInterface = false := fun c k h1 h2 => by
  obtain ⟨c2, r2, m2, -, -, q3, -, kP, hkP, hkPi⟩ := Cond.selects_spec (show (Jvm.Cond.selects C y z).before #[] s = true from mvT hZ w)
  have := findClass_of_methodNamed q3
  cases this.symm.trans h1
  cases hkP.symm.trans h2
  exact hkPi
theorem own_leave (X : Stand p l e R s m args below meth c T locs cells slots) (hlocks : meth.locks = false) {v : Option Value} (hv : meth.sig.returnType = none → v = none) {Q : Option Value → Heap → List Loc → Prop} {kc ks : Nat} (hc : cells ≤ kc) (hs : slots ≤ ks) (hq : Q v T.heap locs) {t : State}
    (step : ∀ fs, (∀ (f : JFrame) (acts : List Action), f.method = m → f.locked = none → f.entered = [] → (doReturn e (T.setTop f) acts v).1 = T.setFrames fs) → Steps p.tables e below t (T.setFrames fs)) : own_Ends p e below (own_Post s Q kc ks) t := by
  obtain ⟨fs, hr, hrun, hended, hW, hsame⟩ := X.leave (v := v) hv hlocks
  exact ⟨_, _, step fs hr, hrun, hended, v, locs, rfl, hq, ⟨_, rfl⟩, hW, hsame.mono hc hs⟩
theorem own_retN (X : Stand p l e R s m args below meth c T locs cells slots) (hx : p.tables.exec = Jvm.exec) (hlocks : meth.locks = false) {t : FieldType} (hret : meth.sig.returnType = some t) (ht : t = .boolean ∨ t = .byte ∨ t = .char ∨ t = .short) {pc : Nat} {Ls : Array Slot} {z : Int32} {rest : List Value} (hd : decode c.code pc = .ok (.ireturn, 1)) {Q : Option Value → Heap → List Loc → Prop} {kc ks : Nat} (hc : cells ≤ kc) (hs : slots ≤ ks) (hn : nar t z = z) (hq : Q (some (.int z)) T.heap locs) :
    own_Ends p e below (own_Post s Q kc ks) (T.setTop (mkF m pc Ls (.int z :: rest))) :=
  own_leave X hlocks (v := some (.int (nar t z))) (fun h => by rw [hret] at h; cases h) hc hs (by rw [hn]; exact hq) (fun fs hr => retN X hx hret ht hd hr)
theorem own_retI (X : Stand p l e R s m args below meth c T locs cells slots) (hx : p.tables.exec = Jvm.exec) (hlocks : meth.locks = false) (hret : meth.sig.returnType = some .int) {pc : Nat} {Ls : Array Slot} {z : Int32} {rest : List Value} (hd : decode c.code pc = .ok (.ireturn, 1)) {Q : Option Value → Heap → List Loc → Prop} {kc ks : Nat} (hc : cells ≤ kc) (hs : slots ≤ ks) (hq : Q (some (.int z)) T.heap locs) :
    own_Ends p e below (own_Post s Q kc ks) (T.setTop (mkF m pc Ls (.int z :: rest))) :=
  own_leave X hlocks (v := some (.int z)) (fun h => by rw [hret] at h; cases h) hc hs hq (fun fs hr => retOut X hx hret (w := .int z) rfl (Or.inl ⟨rfl, Or.inl rfl, z, rfl⟩) hd hr)
theorem own_retJ (X : Stand p l e R s m args below meth c T locs cells slots) (hx : p.tables.exec = Jvm.exec) (hlocks : meth.locks = false) (hret : meth.sig.returnType = some .long) {pc : Nat} {Ls : Array Slot} {z : Int64} {rest : List Value} (hd : decode c.code pc = .ok (.lreturn, 1)) {Q : Option Value → Heap → List Loc → Prop} {kc ks : Nat} (hc : cells ≤ kc) (hs : slots ≤ ks) (hq : Q (some (.long z)) T.heap locs) :
    own_Ends p e below (own_Post s Q kc ks) (T.setTop (mkF m pc Ls (.long z :: rest))) :=
  own_leave X hlocks (v := some (.long z)) (fun h => by rw [hret] at h; cases h) hc hs hq (fun fs hr => retOut X hx hret (w := .long z) rfl (Or.inr (Or.inl ⟨rfl, rfl, z, rfl⟩)) hd hr)
theorem own_narR {t : FieldType} (ht : t.isReference = true) {w : Value} (hw : w.isRef = true) : narrow t w = w := by cases t <;> first | (cases w <;> first | rfl | cases hw) | cases ht
theorem own_retA (X : Stand p l e R s m args below meth c T locs cells slots) (hx : p.tables.exec = Jvm.exec) (hlocks : meth.locks = false) {t : FieldType} (hret : meth.sig.returnType = some t) (ht : t.isReference = true) {pc : Nat} {Ls : Array Slot} {w : Value} (hw : w.isRef = true) {rest : List Value} (hd : decode c.code pc = .ok (.areturn, 1)) {Q : Option Value → Heap → List Loc → Prop} {kc ks : Nat} (hc : cells ≤ kc) (hs : slots ≤ ks) (hq : Q (some w) T.heap locs) :
    own_Ends p e below (own_Post s Q kc ks) (T.setTop (mkF m pc Ls (w :: rest))) :=
  own_leave X hlocks (v := some w) (fun h => by rw [hret] at h; cases h) hc hs hq (fun fs hr => retOut X hx hret (own_narR ht hw) (Or.inr (Or.inr (Or.inr (Or.inr ⟨rfl, ht, hw⟩)))) hd hr)
theorem own_ret (X : Stand p l e R s m args below meth c T locs cells slots) (hx : p.tables.exec = Jvm.exec) (hlocks : meth.locks = false) (hret : meth.sig.returnType = none) {pc : Nat} {Ls : Array Slot} (hd : decode c.code pc = .ok (.return_, 1)) {Q : Option Value → Heap → List Loc → Prop} {kc ks : Nat} (hc : cells ≤ kc) (hs : slots ≤ ks) (hq : Q none T.heap locs) :
    own_Ends p e below (own_Post s Q kc ks) (T.setTop (mkF m pc Ls [])) :=
  own_leave X hlocks (v := none) (fun _ => rfl) hc hs hq (fun fs hr => X.returnOut hx hret hd hr)
end OwnKit
section OwnKitH
variable {p : Program} {l : Launch} {e : Env} {R : Room} {s : State} {m : MethodId} {args : Array Value} {below : List Frame} {meth : Method} {c : Code} {T : State} {locs : List Loc} {cells slots : Nat} {Z : State} {a0 : Array Value} {h : Heap} {Φ : Outcome → State → Prop} {vm0 : Vm} {EL : List (String × Nat)} {h0 : Heap}
def own_H (Z : State) (EL : List (String × Nat)) (s : State) (h0 : Heap) (vm0 : Vm) (h : Heap) : Prop := s.heap = h0 ∧ (∃ k0, s.Since vm0 k0 ∧ k0 ≤ h.size) ∧ CHr Z EL s.vm h0 vm0 h
theorem own_H.ext {h' : Heap} (H : own_H Z EL s h0 vm0 h) (E : Ext h h') : own_H Z EL s h0 vm0 h' := ⟨H.1, by obtain ⟨k, h1, h2⟩ := H.2.1; exact ⟨k, h1, Nat.le_trans h2 E.1⟩, H.2.2.trans (CHr.ext E H.2.2.1)⟩
theorem own_H.wr {h' : Heap} {a : Addr} {sl : Nat} {v : Value} (H : own_H Z EL s h0 vm0 h) (W : Wr h h' a sl v) (S : Safe Z EL vm0 h a) : own_H Z EL s h0 vm0 h' := ⟨H.1, by obtain ⟨k, h1, h2⟩ := H.2.1; exact ⟨k, h1, by rw [W.size]; exact h2⟩, H.2.2.trans (CHr.wr W S H.2.2.1)⟩
theorem own_H.keep {h' : Heap} {ws : List Addr} (H : own_H Z EL s h0 vm0 h) (K : Keep h h' ws) (S : ∀ x ∈ ws, Safe Z EL vm0 h x) : own_H Z EL s h0 vm0 h' := ⟨H.1, by obtain ⟨k, h1, h2⟩ := H.2.1; exact ⟨k, h1, Nat.le_trans h2 K.1⟩, H.2.2.trans (CHr.keep K S H.2.2.1)⟩
theorem own_H.ch (H : own_H Z EL s h0 vm0 h) : CHv Z EL vm0 h := H.2.2.1
theorem own_sfE {h' : Heap} {y : Addr} (S : Safe Z EL vm0 h y) (E : Ext h h') (H : own_H Z EL s h0 vm0 h) : Safe Z EL vm0 h' y := Safe.ext E H.ch S
theorem own_sfN {h' : Heap} {y : Addr} (q : y = h.size) (E : Ext h h') (H : own_H Z EL s h0 vm0 h) : Safe Z EL vm0 h' y := Safe.ext E H.ch (Safe.new (Nat.le_of_eq q.symm))
theorem own_sfW {h' : Heap} {y a : Addr} {sl : Nat} {v : Value} (S : Safe Z EL vm0 h y) (W : Wr h h' a sl v) (Sa : Safe Z EL vm0 h a) (H : own_H Z EL s h0 vm0 h) : Safe Z EL vm0 h' y := Safe.wr W Sa H.ch S
theorem own_sfK {h' : Heap} {y : Addr} {ws : List Addr} (S : Safe Z EL vm0 h y) (K : Keep h h' ws) (Sw : ∀ x ∈ ws, Safe Z EL vm0 h x) (H : own_H Z EL s h0 vm0 h) : Safe Z EL vm0 h' y := Safe.keep K Sw H.ch S
def own_PostH (Z : State) (EL : List (String × Nat)) (s : State) (Q : Option Value → Heap → List Loc → Prop) (kc ks : Nat) (o : Outcome) (U : State) : Prop := ∃ v L, o = .returned v ∧ Q v U.heap L ∧ CHr Z EL s.vm s.heap U.vm U.heap ∧ ReturnedEndW s o U L kc ks
def own_MetH (l : Launch) (y : MethodName) (bytes : ByteArray) (maxL : Nat) (ret : Option FieldType) (rm : Room) (Z : State) (EL : List (String × Nat)) (as' : Array Value) (h0 : Heap) (Q : Option Value → Heap → List Loc → Prop) : Prop :=
  ∀ ws : List Jvm.Cond, MetFree l y (head1 (Jvm.Cond.code y bytes maxL ret :: ws) rm) (fun a U => a = as' ∧ Z.Warmed39 U.vm ∧ U.heap = h0 ∧ CHv Z EL U.vm h0) (fun _ _ _ _ _ => True) (fun _ U o U' => ∃ v L, o = .returned v ∧ Q v U'.heap L ∧ CHr Z EL U.vm U.heap U'.vm U'.heap ∧ ReturnedEndW U o U' L rm.cells rm.slots)
theorem own_metH {y : MethodName} {bytes : ByteArray} {maxL : Nat} {ret : Option FieldType} {rm : Room} {as' : Array Value} {Q : Option Value → Heap → List Loc → Prop} (hp : plainFor y = true)
    (body : ∀ (p : Program) (e : Env) (s : State) (m : MethodId) (below : List Frame) (meth : Method) (c : Code) (T : State), p.tables.exec = Jvm.exec → c.code = bytes → c.maxLocals = maxL → Z.Warmed39 (s.setVm s.vm).vm → (s.setVm s.vm).vm.findClass y.cls = some m.cls → meth.name = y.name → meth.sig.returnType = ret → meth.locks = false →
      Stand p l e rm (s.setVm s.vm) m as' below meth c T [] 0 0 → T.heap = h0 → s.heap = h0 → own_H Z EL s h0 s.vm h0 → own_Ends p e below (own_PostH Z EL s Q rm.cells rm.slots) (T.setTop (entryFrame m as' maxL))) : own_MetH l y bytes maxL ret rm Z EL as' h0 Q := by
  intro ws
  refine MetFree.of_bodySF hp hisR ?_
  intro p e s m args below meth c s₁ Bd hml0 hP hK
  obtain ⟨rfl, hZ, hh, hC⟩ := hP
  exact body p e s m below meth c s₁ Bd.exec Bd.bytes hml0 hZ (findClass_of_methodNamed Bd.named) (name_of_methodNamed Bd.named Bd.method).1 Bd.returns (BodyLoose.notSynchronized Bd) (Stand.of_body Bd) (by rw [← hh, Bd.state]; rfl) hh ⟨hh, ⟨0, ⟨State.Warmed39.refl s, (State.WarmedH.refl s).no_new_pair 0⟩, Nat.zero_le _⟩, CHr.refl hC⟩
/-- a plain contract serves where an H one is asked -/
theorem own_leaveH (X : Stand p l e R (s.setVm vm0) m args below meth c T locs cells slots) (hlocks : meth.locks = false) {v : Option Value} (hv : meth.sig.returnType = none → v = none) (hZ : Z.Warmed39 (s.setVm vm0).vm) (eT : T.heap = h) (HH : own_H Z EL s h0 vm0 h) (hEL : EW Z a0 EL) {Q : Option Value → Heap → List Loc → Prop} {kc ks : Nat} (hc : cells ≤ kc) (hs : slots ≤ ks) (hq : Q v T.heap locs) {t : State}
    (step : ∀ fs, (∀ (f : JFrame) (acts : List Action), f.method = m → f.locked = none → f.entered = [] → (doReturn e (T.setTop f) acts v).1 = T.setFrames fs) → Steps p.tables e below t (T.setFrames fs)) : own_Ends p e below (own_PostH Z EL s Q kc ks) t := by
  obtain ⟨hh, ⟨k0, hS, hk⟩, hC⟩ := HH
  obtain ⟨fs, hr, hrun, hended, hE⟩ := X.leaveW hS (by rw [eT]; exact hk) (v := v) hv hlocks
  subst hh eT
  have A := hC.trans (CHv.at X hZ hEL hC.1)
  exact ⟨_, _, step fs hr, hrun, hended, v, locs, rfl, hq, A, hE.1, hE.2.1, hE.2.2.1, hE.2.2.2.mono hc hs⟩
theorem own_retNH (X : Stand p l e R (s.setVm vm0) m args below meth c T locs cells slots) (hx : p.tables.exec = Jvm.exec) (hZ : Z.Warmed39 (s.setVm vm0).vm) (eT : T.heap = h) (HH : own_H Z EL s h0 vm0 h) (hEL : EW Z a0 EL) (hlocks : meth.locks = false) {t : FieldType} (hret : meth.sig.returnType = some t) (ht : t = .boolean ∨ t = .byte ∨ t = .char ∨ t = .short) {pc : Nat} {Ls : Array Slot} {z : Int32} {rest : List Value} (hd : decode c.code pc = .ok (.ireturn, 1)) {Q : Option Value → Heap → List Loc → Prop} {kc ks : Nat} (hc : cells ≤ kc) (hs : slots ≤ ks) (hn : nar t z = z) (hq : Q (some (.int z)) T.heap locs) :
    own_Ends p e below (own_PostH Z EL s Q kc ks) (T.setTop (mkF m pc Ls (.int z :: rest))) :=
  own_leaveH X hlocks (v := some (.int (nar t z))) (fun h => by rw [hret] at h; cases h) hZ eT HH hEL hc hs (by rw [hn]; exact hq) (fun fs hr => retN X hx hret ht hd hr)
theorem own_retIH (X : Stand p l e R (s.setVm vm0) m args below meth c T locs cells slots) (hx : p.tables.exec = Jvm.exec) (hZ : Z.Warmed39 (s.setVm vm0).vm) (eT : T.heap = h) (HH : own_H Z EL s h0 vm0 h) (hEL : EW Z a0 EL) (hlocks : meth.locks = false) (hret : meth.sig.returnType = some .int) {pc : Nat} {Ls : Array Slot} {z : Int32} {rest : List Value} (hd : decode c.code pc = .ok (.ireturn, 1)) {Q : Option Value → Heap → List Loc → Prop} {kc ks : Nat} (hc : cells ≤ kc) (hs : slots ≤ ks) (hq : Q (some (.int z)) T.heap locs) :
    own_Ends p e below (own_PostH Z EL s Q kc ks) (T.setTop (mkF m pc Ls (.int z :: rest))) :=
  own_leaveH X hlocks (v := some (.int z)) (fun h => by rw [hret] at h; cases h) hZ eT HH hEL hc hs hq (fun fs hr => retOut X hx hret (w := .int z) rfl (Or.inl ⟨rfl, Or.inl rfl, z, rfl⟩) hd hr)
theorem own_retJH (X : Stand p l e R (s.setVm vm0) m args below meth c T locs cells slots) (hx : p.tables.exec = Jvm.exec) (hZ : Z.Warmed39 (s.setVm vm0).vm) (eT : T.heap = h) (HH : own_H Z EL s h0 vm0 h) (hEL : EW Z a0 EL) (hlocks : meth.locks = false) (hret : meth.sig.returnType = some .long) {pc : Nat} {Ls : Array Slot} {z : Int64} {rest : List Value} (hd : decode c.code pc = .ok (.lreturn, 1)) {Q : Option Value → Heap → List Loc → Prop} {kc ks : Nat} (hc : cells ≤ kc) (hs : slots ≤ ks) (hq : Q (some (.long z)) T.heap locs) :
    own_Ends p e below (own_PostH Z EL s Q kc ks) (T.setTop (mkF m pc Ls (.long z :: rest))) :=
  own_leaveH X hlocks (v := some (.long z)) (fun h => by rw [hret] at h; cases h) hZ eT HH hEL hc hs hq (fun fs hr => retOut X hx hret (w := .long z) rfl (Or.inr (Or.inl ⟨rfl, rfl, z, rfl⟩)) hd hr)
theorem own_retAH (X : Stand p l e R (s.setVm vm0) m args below meth c T locs cells slots) (hx : p.tables.exec = Jvm.exec) (hZ : Z.Warmed39 (s.setVm vm0).vm) (eT : T.heap = h) (HH : own_H Z EL s h0 vm0 h) (hEL : EW Z a0 EL) (hlocks : meth.locks = false) {t : FieldType} (hret : meth.sig.returnType = some t) (ht : t.isReference = true) {pc : Nat} {Ls : Array Slot} {w : Value} (hw : w.isRef = true) {rest : List Value} (hd : decode c.code pc = .ok (.areturn, 1)) {Q : Option Value → Heap → List Loc → Prop} {kc ks : Nat} (hc : cells ≤ kc) (hs : slots ≤ ks) (hq : Q (some w) T.heap locs) :
    own_Ends p e below (own_PostH Z EL s Q kc ks) (T.setTop (mkF m pc Ls (w :: rest))) :=
  own_leaveH X hlocks (v := some w) (fun h => by rw [hret] at h; cases h) hZ eT HH hEL hc hs hq (fun fs hr => retOut X hx hret (own_narR ht hw) (Or.inr (Or.inr (Or.inr (Or.inr ⟨rfl, ht, hw⟩)))) hd hr)
theorem own_retH (X : Stand p l e R (s.setVm vm0) m args below meth c T locs cells slots) (hx : p.tables.exec = Jvm.exec) (hZ : Z.Warmed39 (s.setVm vm0).vm) (eT : T.heap = h) (HH : own_H Z EL s h0 vm0 h) (hEL : EW Z a0 EL) (hlocks : meth.locks = false) (hret : meth.sig.returnType = none) {pc : Nat} {Ls : Array Slot} (hd : decode c.code pc = .ok (.return_, 1)) {Q : Option Value → Heap → List Loc → Prop} {kc ks : Nat} (hc : cells ≤ kc) (hs : slots ≤ ks) (hq : Q none T.heap locs) :
    own_Ends p e below (own_PostH Z EL s Q kc ks) (T.setTop (mkF m pc Ls [])) :=
  own_leaveH X hlocks (v := none) (fun _ => rfl) hZ eT HH hEL hc hs hq (fun fs hr => X.returnOut hx hret hd hr)
theorem own_staticH (X : Stand p l e R (s.setVm vm0) m args below meth c T locs cells slots) (hx : p.tables.exec = Jvm.exec) (hZ : Z.Warmed39 (s.setVm vm0).vm) {own : String} {index : Nat} {y : MethodName} {bytes : ByteArray} {maxL : Nat} {ret : Option FieldType} {rm : Room} {Q : Option Value → Heap → List Loc → Prop} (hown : (s.setVm vm0).vm.findClass own = some m.cls) (w1 : (Jvm.Cond.methodLink own index y).before a0 Z = true) (w2 : (Jvm.Cond.static y).before a0 Z = true) (w3 : (Jvm.Cond.initialized y.cls).before a0 Z = true) (w4 : (Jvm.Cond.code y bytes maxL ret).before a0 Z = true) (hy : y.cls ≠ "java/lang/invoke/MethodHandle" ∧ y.cls ≠ "java/lang/invoke/VarHandle") (HH : own_H Z EL s h0 vm0 h) (hEL : EW Z a0 EL) (eT : T.heap = h) (hf : rm.frames + 1 ≤ R.frames) {W : Nat} (hl : W + (maxL + 11) + rm.locals ≤ R.locals) (hc : cells + rm.cells ≤ R.cells) (hs : slots + rm.slots ≤ R.slots) {pc pc' : Nat} {Ls : Array Slot} (argsL rest : List Value) {st : List Value} (hsize : Ls.size = c.maxLocals) (hM : own_MetH l y bytes maxL ret rm Z EL argsL.toArray h Q)
    {ps : List FieldType} {r : Option FieldType} (hpd : parseMethodDescriptor y.desc = some ⟨ps, r⟩) (hlen : argsL.length = ps.length) (hst : st = argsL.reverse ++ rest) (hW : (rest.map fun v => v.category).sum = W) (hd : decode c.code pc = .ok (.invokestatic index, 3)) (hp : pc + 3 = pc') (k : ∀ v T' L, Stand p l e R (s.setVm T'.vm) m args below meth c T' (locs ++ L) (cells + rm.cells) (slots + rm.slots) → Q v T'.heap L → Z.Warmed39 (s.setVm T'.vm).vm → (s.setVm T'.vm).vm.findClass own = some m.cls → own_H Z EL s h0 T'.vm T'.heap → CHr Z EL vm0 h T'.vm T'.heap → own_Ends p e below Φ (T'.setTop (mkF m pc' Ls (v.toList ++ rest)))) : own_Ends p e below Φ (T.setTop (mkF m pc Ls st)) := by
  subst hp
  obtain ⟨v, _, ⟨T', L', k', n'⟩, -, X', hS', hgr, ⟨Lc, hQ, e1, e2, e3, hC⟩, st'⟩ :=  callSS X hx (y := y) hown (mvT hZ w1) (mvT hZ w2) (mvT hZ w3) (mvT hZ w4) hy (backOfSH (s := s) (vm0 := vm0) (W := W) (hM []) hZ w4 w3 hf hl hEL HH.ch) (g := mkF m pc Ls st) rfl hsize (argsL := argsL) (rest := rest) (lenOf hpd hlen) hst (by rw [← hW]; show 2 * 0 + _ ≤ _; omega) hd (fun _ _ => ⟨rfl, eT, hc, hs⟩)
  dsimp only [Pt.U, Pt.locs, Pt.cells, Pt.slots] at X' hS' hgr e1 e2 e3 hC st' hQ
  subst e1 e2 e3
  obtain ⟨hh, ⟨k0, hS, hk⟩, hC0⟩ := HH
  subst eT
  exact own_thru st' (k v T' Lc X' hQ (State.Warmed39.trans (t := s.setVm vm0) hZ hS'.1) (by rw [show (s.setVm T'.vm).vm = T'.vm from rfl, hS'.1.alike.findClass]; exact hown) ⟨hh, ⟨_, hS.trans hS' (Nat.le_trans hk hgr), Nat.le_refl _⟩, hC0.trans hC⟩ hC)
theorem own_specialH (X : Stand p l e R (s.setVm vm0) m args below meth c T locs cells slots) (hx : p.tables.exec = Jvm.exec) (hZ : Z.Warmed39 (s.setVm vm0).vm) {own : String} {index : Nat} {y : MethodName} {bytes : ByteArray} {maxL : Nat} {rm : Room} {Q : Option Value → Heap → List Loc → Prop} (hy1 : y.name = "<init>") (hown : (s.setVm vm0).vm.findClass own = some m.cls) (w1 : (Jvm.Cond.methodLink own index y).before a0 Z = true) (w2 : (Jvm.Cond.instanceMethod y).before a0 Z = true) (w3 : (Jvm.Cond.initialized y.cls).before a0 Z = true) (w4 : (Jvm.Cond.code y bytes maxL none).before a0 Z = true) (hy : y.cls ≠ "java/lang/invoke/MethodHandle" ∧ y.cls ≠ "java/lang/invoke/VarHandle") (HH : own_H Z EL s h0 vm0 h) (hEL : EW Z a0 EL) (eT : T.heap = h) (hf : rm.frames + 1 ≤ R.frames) {W : Nat} (hl : W + (maxL + 11) + rm.locals ≤ R.locals) (hc : cells + rm.cells ≤ R.cells) (hs : slots + rm.slots ≤ R.slots) {pc pc' : Nat} {Ls : Array Slot} (argsL rest : List Value) {st : List Value} (hsize : Ls.size = c.maxLocals) {a : Addr} (hM : own_MetH l y bytes maxL none rm Z EL (.ref a :: argsL).toArray h Q)
    {ps : List FieldType} {r : Option FieldType} (hpd : parseMethodDescriptor y.desc = some ⟨ps, r⟩) (hlen : argsL.length = ps.length) (hst : st = argsL.reverse ++ .ref a :: rest) (hW : (rest.map fun v => v.category).sum = W) (hd : decode c.code pc = .ok (.invokespecial index, 3)) (hp : pc + 3 = pc') (k : ∀ v T' L, Stand p l e R (s.setVm T'.vm) m args below meth c T' (locs ++ L) (cells + rm.cells) (slots + rm.slots) → Q v T'.heap L → Z.Warmed39 (s.setVm T'.vm).vm → (s.setVm T'.vm).vm.findClass own = some m.cls → own_H Z EL s h0 T'.vm T'.heap → CHr Z EL vm0 h T'.vm T'.heap → own_Ends p e below Φ (T'.setTop (mkF m pc' Ls (v.toList ++ rest)))) : own_Ends p e below Φ (T.setTop (mkF m pc Ls st)) := by
  subst hp
  obtain ⟨v, _, ⟨T', L', k', n'⟩, -, X', hS', hgr, ⟨Lc, hQ, e1, e2, e3, hC⟩, st'⟩ :=  X.specialBackS hx (y := y) hy1 hown (mvT hZ w1) (mvT hZ w2) (mvT hZ w4) hy (backOfSH (s := s) (vm0 := vm0) (W := W) (hM []) hZ w4 w3 hf hl hEL HH.ch) (g := mkF m pc Ls st) rfl hsize (Steps.refl _) (a := a) (argsL := argsL) (rest := rest) (lenOf hpd hlen) hst (by rw [← hW]; show 2 * 0 + _ ≤ _; omega) hd (fun _ _ => ⟨rfl, eT, hc, hs⟩)
  dsimp only [Pt.U, Pt.locs, Pt.cells, Pt.slots] at X' hS' hgr e1 e2 e3 hC st' hQ
  subst e1 e2 e3
  obtain ⟨hh, ⟨k0, hS, hk⟩, hC0⟩ := HH
  subst eT
  exact own_thru st' (k v T' Lc X' hQ (State.Warmed39.trans (t := s.setVm vm0) hZ hS'.1) (by rw [show (s.setVm T'.vm).vm = T'.vm from rfl, hS'.1.alike.findClass]; exact hown) ⟨hh, ⟨_, hS.trans hS' (Nat.le_trans hk hgr), Nat.le_refl _⟩, hC0.trans hC⟩ hC)
theorem own_virtualH (X : Stand p l e R (s.setVm vm0) m args below meth c T locs cells slots) (hx : p.tables.exec = Jvm.exec) (hZ : Z.Warmed39 (s.setVm vm0).vm) {own C : String} {index : Nat} {y z : MethodName} {bytes : ByteArray} {maxL : Nat} {ret : Option FieldType} {rm : Room} {Q : Option Value → Heap → List Loc → Prop} (hown : (s.setVm vm0).vm.findClass own = some m.cls) (w1 : (Jvm.Cond.methodLink own index y).before a0 Z = true) (w2 : (Jvm.Cond.declares y).before a0 Z = true) (hnf : NotFace (s.setVm vm0) y) (w3 : (Jvm.Cond.selects C y z).before a0 Z = true) (w4 : (Jvm.Cond.instanceMethod z).before a0 Z = true) (w5 : (Jvm.Cond.initialized z.cls).before a0 Z = true) (w6 : (Jvm.Cond.code z bytes maxL ret).before a0 Z = true) (hy : y.cls ≠ "java/lang/invoke/MethodHandle" ∧ y.cls ≠ "java/lang/invoke/VarHandle") (HH : own_H Z EL s h0 vm0 h) (hEL : EW Z a0 EL) (eT : T.heap = h) (hf : rm.frames + 1 ≤ R.frames) {W : Nat} (hl : W + (maxL + 11) + rm.locals ≤ R.locals) (hc : cells + rm.cells ≤ R.cells) (hs : slots + rm.slots ≤ R.slots) {pc pc' : Nat} {Ls : Array Slot} (argsL rest : List Value) {st : List Value} (hsize : Ls.size = c.maxLocals) {a : Addr} (E : Exa Z h a C) (hM : own_MetH l z bytes maxL ret rm Z EL (.ref a :: argsL).toArray h Q)
    {ps : List FieldType} {r : Option FieldType} (hpd : parseMethodDescriptor y.desc = some ⟨ps, r⟩) (hlen : argsL.length = ps.length) (hst : st = argsL.reverse ++ .ref a :: rest) (hW : (rest.map fun v => v.category).sum = W) (hd : decode c.code pc = .ok (.invokevirtual index, 3)) (hp : pc + 3 = pc') (k : ∀ v T' L, Stand p l e R (s.setVm T'.vm) m args below meth c T' (locs ++ L) (cells + rm.cells) (slots + rm.slots) → Q v T'.heap L → Z.Warmed39 (s.setVm T'.vm).vm → (s.setVm T'.vm).vm.findClass own = some m.cls → own_H Z EL s h0 T'.vm T'.heap → CHr Z EL vm0 h T'.vm T'.heap → own_Ends p e below Φ (T'.setTop (mkF m pc' Ls (v.toList ++ rest)))) : own_Ends p e below Φ (T.setTop (mkF m pc Ls st)) := by
  subst hp
  obtain ⟨cq, kq, q1, q2, q3⟩ := isOf hZ eT E
  obtain ⟨v, _, ⟨T', L', k', n'⟩, -, X', hS', hgr, ⟨Lc, hQ, e1, e2, e3, hC⟩, st'⟩ :=  X.virtualBackS hx (y := y) (z := z) hown (mvT hZ w1) (mvT hZ w2) hnf (mvT hZ w3) (mvT hZ w4) hy (backOfSH (s := s) (vm0 := vm0) (W := W) (hM []) hZ w6 w5 hf hl hEL HH.ch) q1 q3 (g := mkF m pc Ls st) rfl hsize (Steps.refl _) (argsL := argsL) (rest := rest) (lenOf hpd hlen) hst (by rw [← hW]; show 2 * 0 + _ ≤ _; omega) hd (fun _ _ => ⟨rfl, eT, hc, hs⟩)
  dsimp only [Pt.U, Pt.locs, Pt.cells, Pt.slots] at X' hS' hgr e1 e2 e3 hC st' hQ
  subst e1 e2 e3
  obtain ⟨hh, ⟨k0, hS, hk⟩, hC0⟩ := HH
  subst eT
  exact own_thru st' (k v T' Lc X' hQ (State.Warmed39.trans (t := s.setVm vm0) hZ hS'.1) (by rw [show (s.setVm T'.vm).vm = T'.vm from rfl, hS'.1.alike.findClass]; exact hown) ⟨hh, ⟨_, hS.trans hS' (Nat.le_trans hk hgr), Nat.le_refl _⟩, hC0.trans hC⟩ hC)
/-- ldc of a String literal, its text read -/
theorem own_ldcS (X : Stand p l e R (s.setVm vm0) m args below meth c T locs cells slots) (hx : p.tables.exec = Jvm.exec) (hZ : Z.Warmed39 (s.setVm vm0).vm) {own text : String} {index : Nat} (hown : (s.setVm vm0).vm.findClass own = some m.cls) (w : (Jvm.Cond.stringLink own index text).before a0 Z = true) (wS : ∀ a ∈ Bundle.stringAtoms, a.before a0 Z = true) (eT : T.heap = h) (HH : own_H Z EL s h0 vm0 h) (hEL : EW Z a0 EL) (hmem : (own, index) ∈ EL)
    {vs : List Value} {z : Int32} (ht : (∀ c ∈ text.toList, c.toNat < 256) ∧ text.toList.map (fun c => Value.int (Jvm.Lit.byteI c.toNat.toUInt16)) = vs) (hz : ¬ z < 0) (hl : z.toNatClampNeg = vs.length) {pc pc' : Nat} {Ls : Array Slot} {rest : List Value} (hd : decode c.code pc = .ok (.ldc index, 2)) (n : Nat) (hn : 4 * text.toList.length ≤ n) (hbig : n ≤ 536870912) (hc : cells + 2 ≤ R.cells) (hl' : slots + (n + 4) ≤ R.slots) (hp : pc + 2 = pc')
    (k : ∀ (a : Addr) (T' : State) (h' : Heap) (b : Addr) (kk : ClassId), Stand p l e R (s.setVm T'.vm) m args below meth c T' locs (cells + 2) (slots + (n + 4)) → T'.heap = h' → Ext h h' → Z.Warmed39 (s.setVm T'.vm).vm → (s.setVm T'.vm).vm.findClass own = some m.cls → own_H Z EL s h0 T'.vm h' → CHr Z EL vm0 h T'.vm h' → Exa Z h' a "java/lang/String" → Fld Z h' a "java/lang/String" "coder" "B" (.int 0) → Fld Z h' a "java/lang/String" "value" "[B" (.ref b) → Arv Z h' b kk .byte z vs (.int 0) → (∀ x, Safe Z EL T'.vm h' x → x ≠ a ∧ x ≠ b) → own_Ends p e below Φ (T'.setTop (mkF m pc' Ls (.ref a :: rest)))) : own_Ends p e below Φ (T.setTop (mkF m pc Ls rest)) := by
  subst hp
  obtain ⟨hh, ⟨k0, hS, hk⟩, hC0⟩ := HH
  obtain ⟨a, T', h', k1, b, kk, X', e', E', hS', hk', hZ', hown', A', c', v', V', -, -, hC, -, hne, st⟩ := ldcCH X hx hZ hown w wS eT hS hk hEL hmem hC0.1 ht hz hl (g := mkF m pc Ls rest) rfl hd hn hbig hc hl'
  exact own_via st (k a T' h' b kk X' e' E' hZ' hown' ⟨hh, ⟨k1, hS', hk'⟩, hC0.trans hC⟩ hC A' c' v' V' hne)
theorem own_retDH (X : Stand p l e R (s.setVm vm0) m args below meth c T locs cells slots) (hx : p.tables.exec = Jvm.exec) (hZ : Z.Warmed39 (s.setVm vm0).vm) (eT : T.heap = h) (HH : own_H Z EL s h0 vm0 h) (hEL : EW Z a0 EL) (hlocks : meth.locks = false) (hret : meth.sig.returnType = some .double) {pc : Nat} {Ls : Array Slot} {z : UInt64} {rest : List Value} (hd : decode c.code pc = .ok (.dreturn, 1)) {Q : Option Value → Heap → List Loc → Prop} {kc ks : Nat} (hc : cells ≤ kc) (hs : slots ≤ ks) (hq : Q (some (.double z)) T.heap locs) :
    own_Ends p e below (own_PostH Z EL s Q kc ks) (T.setTop (mkF m pc Ls (.double z :: rest))) :=
  own_leaveH X hlocks (v := some (.double z)) (fun h => by rw [hret] at h; cases h) hZ eT HH hEL hc hs hq (fun fs hr => retOut X hx hret (w := .double z) rfl (Or.inr (Or.inr (Or.inl ⟨rfl, rfl, z, rfl⟩))) hd hr)
end OwnKitH
section OwnKitB
variable {p : Program} {l : Launch} {e : Env} {R : Room} {s : State} {m : MethodId} {args : Array Value} {below : List Frame} {meth : Method} {c : Code} {T : State} {locs : List Loc} {cells slots : Nat} {Z : State} {a0 : Array Value} {h : Heap} {Φ : Outcome → State → Prop}
theorem own_staticB (X : Stand p l e R s m args below meth c T locs cells slots) (hx : p.tables.exec = Jvm.exec) (hZ : Z.Warmed39 s.vm) {own : String} {index : Nat} {y : MethodName} {bytes : ByteArray} {maxL : Nat} {ret : Option FieldType} (hown : s.vm.findClass own = some m.cls) (w1 : (Jvm.Cond.methodLink own index y).before a0 Z = true) (w2 : (Jvm.Cond.static y).before a0 Z = true) (w3 : (Jvm.Cond.initialized y.cls).before a0 Z = true) (w4 : (Jvm.Cond.code y bytes maxL ret).before a0 Z = true) (hy : y.cls ≠ "java/lang/invoke/MethodHandle" ∧ y.cls ≠ "java/lang/invoke/VarHandle") {ce sl : Nat} (eT : T.heap = h) {W : Nat} (hc : cells + ce ≤ R.cells) (hs : slots + sl ≤ R.slots) {pc pc' : Nat} {Ls : Array Slot} (argsL rest : List Value) {st : List Value} (hsize : Ls.size = c.maxLocals) (Q : Option Value → Heap → List Loc → Prop) (hK : Back l R p e below s args y 3 W (fun P a' => a' = argsL.toArray ∧ P.U.heap = h ∧ P.cells + ce ≤ R.cells ∧ P.slots + sl ≤ R.slots) (fun P _ v B => ∃ L, Q v B.U.heap L ∧ B.locs = P.locs ++ L ∧ B.cells = P.cells + ce ∧ B.slots = P.slots + sl))
    {ps : List FieldType} {r : Option FieldType} (hpd : parseMethodDescriptor y.desc = some ⟨ps, r⟩) (hlen : argsL.length = ps.length) (hst : st = argsL.reverse ++ rest) (hW : (rest.map fun v => v.category).sum = W) (hd : decode c.code pc = .ok (.invokestatic index, 3)) (hp : pc + 3 = pc') (k : ∀ v T' L, Stand p l e R s m args below meth c T' (locs ++ L) (cells + ce) (slots + sl) → Q v T'.heap L → own_Ends p e below Φ (T'.setTop (mkF m pc' Ls (v.toList ++ rest)))) : own_Ends p e below Φ (T.setTop (mkF m pc Ls st)) := by
  subst hp
  obtain ⟨v, _, ⟨T', L', k', n'⟩, -, X', ⟨Lc, hQ, e1, e2, e3⟩, st'⟩ :=  Jvm.LawKit.callS X hx (y := y) hown (mvT hZ w1) (mvT hZ w2) (mvT hZ w3) (mvT hZ w4) hy hK (g := mkF m pc Ls st) rfl hsize (argsL := argsL) (rest := rest) (lenOf hpd hlen) hst (by rw [← hW]; show 2 * 0 + _ ≤ _; omega) hd (fun _ _ => ⟨rfl, eT, hc, hs⟩)
  dsimp only [Pt.U, Pt.locs, Pt.cells, Pt.slots] at X' e1 e2 e3 st' hQ
  subst e1 e2 e3
  exact own_via st' (k v T' Lc X' hQ)
theorem own_specialB (X : Stand p l e R s m args below meth c T locs cells slots) (hx : p.tables.exec = Jvm.exec) (hZ : Z.Warmed39 s.vm) {own : String} {index : Nat} {y : MethodName} {bytes : ByteArray} {maxL : Nat} (hy1 : y.name = "<init>") (hown : s.vm.findClass own = some m.cls) (w1 : (Jvm.Cond.methodLink own index y).before a0 Z = true) (w2 : (Jvm.Cond.instanceMethod y).before a0 Z = true) (w4 : (Jvm.Cond.code y bytes maxL none).before a0 Z = true) (hy : y.cls ≠ "java/lang/invoke/MethodHandle" ∧ y.cls ≠ "java/lang/invoke/VarHandle") {ce sl : Nat} (eT : T.heap = h) {W : Nat} (hc : cells + ce ≤ R.cells) (hs : slots + sl ≤ R.slots) {pc pc' : Nat} {Ls : Array Slot} (argsL rest : List Value) {st : List Value} (hsize : Ls.size = c.maxLocals) {a : Addr} (Q : Option Value → Heap → List Loc → Prop) (hK : Back l R p e below s args y 3 W (fun P a' => a' = (.ref a :: argsL).toArray ∧ P.U.heap = h ∧ P.cells + ce ≤ R.cells ∧ P.slots + sl ≤ R.slots) (fun P _ v B => ∃ L, Q v B.U.heap L ∧ B.locs = P.locs ++ L ∧ B.cells = P.cells + ce ∧ B.slots = P.slots + sl))
    {ps : List FieldType} {r : Option FieldType} (hpd : parseMethodDescriptor y.desc = some ⟨ps, r⟩) (hlen : argsL.length = ps.length) (hst : st = argsL.reverse ++ .ref a :: rest) (hW : (rest.map fun v => v.category).sum = W) (hd : decode c.code pc = .ok (.invokespecial index, 3)) (hp : pc + 3 = pc') (k : ∀ v T' L, Stand p l e R s m args below meth c T' (locs ++ L) (cells + ce) (slots + sl) → Q v T'.heap L → own_Ends p e below Φ (T'.setTop (mkF m pc' Ls (v.toList ++ rest)))) : own_Ends p e below Φ (T.setTop (mkF m pc Ls st)) := by
  subst hp
  obtain ⟨v, _, ⟨T', L', k', n'⟩, -, X', ⟨Lc, hQ, e1, e2, e3⟩, st'⟩ :=  X.specialBack hx (y := y) hy1 hown (mvT hZ w1) (mvT hZ w2) (mvT hZ w4) hy hK (g := mkF m pc Ls st) rfl hsize (Steps.refl _) (a := a) (argsL := argsL) (rest := rest) (lenOf hpd hlen) hst (by rw [← hW]; show 2 * 0 + _ ≤ _; omega) hd (fun _ _ => ⟨rfl, eT, hc, hs⟩)
  dsimp only [Pt.U, Pt.locs, Pt.cells, Pt.slots] at X' e1 e2 e3 st' hQ
  subst e1 e2 e3
  exact own_thru st' (k v T' Lc X' hQ)
theorem own_virtualB (X : Stand p l e R s m args below meth c T locs cells slots) (hx : p.tables.exec = Jvm.exec) (hZ : Z.Warmed39 s.vm) {own C : String} {index : Nat} {y z : MethodName} (hown : s.vm.findClass own = some m.cls) (w1 : (Jvm.Cond.methodLink own index y).before a0 Z = true) (w2 : (Jvm.Cond.declares y).before a0 Z = true) (hnf : NotFace s y) (w3 : (Jvm.Cond.selects C y z).before a0 Z = true) (w4 : (Jvm.Cond.instanceMethod z).before a0 Z = true) (hy : y.cls ≠ "java/lang/invoke/MethodHandle" ∧ y.cls ≠ "java/lang/invoke/VarHandle") {ce sl : Nat} (eT : T.heap = h) {W : Nat} (hc : cells + ce ≤ R.cells) (hs : slots + sl ≤ R.slots) {pc pc' : Nat} {Ls : Array Slot} (argsL rest : List Value) {st : List Value} (hsize : Ls.size = c.maxLocals) {a : Addr} (E : Exa Z h a C) (Q : Option Value → Heap → List Loc → Prop) (hK : Back l R p e below s args z 3 W (fun P a' => a' = (.ref a :: argsL).toArray ∧ P.U.heap = h ∧ P.cells + ce ≤ R.cells ∧ P.slots + sl ≤ R.slots) (fun P _ v B => ∃ L, Q v B.U.heap L ∧ B.locs = P.locs ++ L ∧ B.cells = P.cells + ce ∧ B.slots = P.slots + sl))
    {ps : List FieldType} {r : Option FieldType} (hpd : parseMethodDescriptor y.desc = some ⟨ps, r⟩) (hlen : argsL.length = ps.length) (hst : st = argsL.reverse ++ .ref a :: rest) (hW : (rest.map fun v => v.category).sum = W) (hd : decode c.code pc = .ok (.invokevirtual index, 3)) (hp : pc + 3 = pc') (k : ∀ v T' L, Stand p l e R s m args below meth c T' (locs ++ L) (cells + ce) (slots + sl) → Q v T'.heap L → own_Ends p e below Φ (T'.setTop (mkF m pc' Ls (v.toList ++ rest)))) : own_Ends p e below Φ (T.setTop (mkF m pc Ls st)) := by
  subst hp
  obtain ⟨cq, kq, q1, q2, q3⟩ := isOf hZ eT E
  obtain ⟨v, _, ⟨T', L', k', n'⟩, -, X', ⟨Lc, hQ, e1, e2, e3⟩, st'⟩ :=  X.virtualBack hx (y := y) (z := z) hown (mvT hZ w1) (mvT hZ w2) hnf (mvT hZ w3) (mvT hZ w4) hy hK q1 q3 (g := mkF m pc Ls st) rfl hsize (Steps.refl _) (argsL := argsL) (rest := rest) (lenOf hpd hlen) hst (by rw [← hW]; show 2 * 0 + _ ≤ _; omega) hd (fun _ _ => ⟨rfl, eT, hc, hs⟩)
  dsimp only [Pt.U, Pt.locs, Pt.cells, Pt.slots] at X' e1 e2 e3 st' hQ
  subst e1 e2 e3
  exact own_thru st' (k v T' Lc X' hQ)
theorem own_iface (X : Stand p l e R s m args below meth c T locs cells slots) (hx : p.tables.exec = Jvm.exec) (hZ : Z.Warmed39 s.vm) {own C : String} {index count : Nat} {xi y : MethodName} {bytes : ByteArray} {maxL : Nat} {ret : Option FieldType} {rm : Room} {Q : Option Value → Heap → List Loc → Prop} (hown : s.vm.findClass own = some m.cls) (w1 : (Jvm.Cond.methodLink own index xi).before a0 Z = true) (w2 : (Jvm.Cond.declares xi).before a0 Z = true) (wf : (Jvm.Cond.interfaceMethod xi.cls xi.cls xi.name xi.desc).before args s = true) (w3 : (Jvm.Cond.selects C xi y).before a0 Z = true) (w4 : (Jvm.Cond.instanceMethod y).before a0 Z = true) (wp : (Jvm.Cond.publicMethod y).before a0 Z = true) (wu : (Jvm.Cond.unhidden C xi.name xi.desc).before a0 Z = true) (wc : (Jvm.Cond.castable C xi.cls).before a0 Z = true) (w5 : (Jvm.Cond.initialized y.cls).before a0 Z = true) (w6 : (Jvm.Cond.code y bytes maxL ret).before a0 Z = true) (hy : xi.cls ≠ "java/lang/invoke/MethodHandle" ∧ xi.cls ≠ "java/lang/invoke/VarHandle") (eT : T.heap = h) (hf : rm.frames + 1 ≤ R.frames) {W : Nat} (hl : W + (maxL + 11) + rm.locals ≤ R.locals) (hc : cells + rm.cells ≤ R.cells) (hs : slots + rm.slots ≤ R.slots) {pc pc' : Nat} {Ls : Array Slot} (argsL rest : List Value) {st : List Value} (hsize : Ls.size = c.maxLocals) {a : Addr} (E : Exa Z h a C) (hM : own_Met l y bytes maxL ret rm Z (.ref a :: argsL).toArray h Q)
    {ps : List FieldType} {r : Option FieldType} (hpd : parseMethodDescriptor xi.desc = some ⟨ps, r⟩) (hlen : argsL.length = ps.length) (hst : st = argsL.reverse ++ .ref a :: rest) (hW : (rest.map fun v => v.category).sum = W) (hd : decode c.code pc = .ok (.invokeinterface index count, 5)) (hp : pc + 5 = pc') (k : ∀ v T' L, Stand p l e R s m args below meth c T' (locs ++ L) (cells + rm.cells) (slots + rm.slots) → Q v T'.heap L → own_Ends p e below Φ (T'.setTop (mkF m pc' Ls (v.toList ++ rest)))) : own_Ends p e below Φ (T.setTop (mkF m pc Ls st)) := by
  subst hp
  obtain ⟨cq, kq, q1, q2, q3⟩ := isOf hZ eT E
  obtain ⟨v, _, ⟨T', L', k', n'⟩, -, X', ⟨Lc, hQ, e1, e2, e3⟩, st'⟩ :=  X.interfaceBack hx (xi := xi) (y := y) hown (mvT hZ w1) (mvT hZ w2) wf (mvT hZ w3) (mvT hZ w4) (mvT hZ wp) (mvT hZ wu) (mvT hZ wc) hy (backOf (W := W) (hM []) hZ w6 w5 hf hl) q1 q2 q3 (g := mkF m pc Ls st) rfl hsize (Steps.refl _) (argsL := argsL) (rest := rest) (lenOf hpd hlen) hst (by rw [← hW]; show 2 * 0 + _ ≤ _; omega) hd (fun _ _ => ⟨rfl, eT, hc, hs⟩)
  dsimp only [Pt.U, Pt.locs, Pt.cells, Pt.slots] at X' e1 e2 e3 st' hQ
  subst e1 e2 e3
  exact own_thru st' (k v T' Lc X' hQ)
theorem own_insK {h' : Heap} {a : Addr} {C : String} {b : Bool} {ws : List Addr} (F : Ins Z h a C b) (K : Keep h h' ws) : Ins Z h' a C b := by
  obtain ⟨cell, cT, h1, h2, h3⟩ := F
  obtain ⟨c', q, r1, r2, -⟩ := K.2.2 a cell h1
  exact ⟨c', cT, q, h2, by rw [r1, r2]; exact h3⟩
end OwnKitB
section OwnKitA
variable {p : Program} {l : Launch} {e : Env} {R : Room} {s : State} {m : MethodId} {args : Array Value} {below : List Frame} {meth : Method} {c : Code} {T : State} {locs : List Loc} {cells slots : Nat} {Z : State} {a0 : Array Value} {h : Heap} {Φ : Outcome → State → Prop}
theorem own_newP (X : Stand p l e R s m args below meth c T locs cells slots) (hx : p.tables.exec = Jvm.exec) (hZ : Z.Warmed39 s.vm) {aty : ArrayType} (w : (Jvm.Cond.arrayClass (newarray.typeOf aty)).before a0 Z = true) (eT : T.heap = h) {pc pc' : Nat} {Ls : Array Slot} {rest : List Value} {n : Int32} (hd : decode c.code pc = .ok (.newarray aty, 2)) (hn : ¬ n < 0) (cap : Nat) (hcap : n.toNatClampNeg ≤ cap) (hb : cap * 8 ≤ 536870912) (hc : cells + 1 ≤ R.cells) (hl : slots + cap ≤ R.slots) (hp : pc + 2 = pc')
    (k : ∀ T' h' b kk, Stand p l e R s m args below meth c T' locs (cells + 1) (slots + cap) → T'.heap = h' → b = h.size → Ext h h' → Arv Z h' b kk (newarray.typeOf aty) n [] (defaultValue (newarray.typeOf aty)) → own_Ends p e below Φ (T'.setTop (mkF m pc' Ls (.ref b :: rest)))) : own_Ends p e below Φ (T.setTop (mkF m pc Ls (.int n :: rest))) := by
  subst hp; obtain ⟨T', h', cA, X', e', E', A', st⟩ := newP X hx hZ w eT (g := mkF m pc Ls (.int n :: rest)) rfl hd rfl hn hcap hb hc hl
  exact own_via st (k T' h' _ cA X' e' rfl E' (Arv.new A' hn))
theorem own_stC (X : Stand p l e R s m args below meth c T locs cells slots) (hx : p.tables.exec = Jvm.exec) (hZ : Z.Warmed39 s.vm) (eT : T.heap = h) {a : Addr} {kk : ClassId} {z : Int32} {vs : List Value} {dv : Value} (A : Arv Z h a kk .char z vs dv) {j : Int32} {x : Int32} (hj : ¬ j < 0 ∧ j < z) (i : Nat) (hi : j.toNatClampNeg = i) (hlen : i < vs.length) (hn : nar .char x = x) {n0 : Nat} (N : Fr n0 locs) (g : n0 ≤ a) {pc pc' : Nat} {Ls : Array Slot} {rest : List Value} (hd : decode c.code pc = .ok (.castore, 1)) (hp : pc + 1 = pc')
    (k : ∀ T' h', Stand p l e R s m args below meth c T' (locs ++ [⟨a, j.toNatClampNeg⟩]) cells slots → T'.heap = h' → Wr h h' a j.toNatClampNeg (.int x) → Fr n0 (locs ++ [⟨a, j.toNatClampNeg⟩]) → Arv Z h' a kk .char z (vs.set i (.int x)) dv → own_Ends p e below Φ (T'.setTop (mkF m pc' Ls rest))) : own_Ends p e below Φ (T.setTop (mkF m pc Ls (.int x :: .int j :: .ref a :: rest))) := by
  subst hp; obtain ⟨cl, Ar, q, S, Nn, H, G⟩ := A
  obtain ⟨T', h', X', e', W', st⟩ := Jvm.RoadKit.stC X hx hZ eT Ar (j := j) (x := x) (inb_of S hj) (g := mkF m pc Ls (.int x :: .int j :: .ref a :: rest)) rfl rfl hd
  have W' : Wr h h' a j.toNatClampNeg (.int (nar .char x)) := W'
  have hf := fits_nar_char x
  rw [hn] at W' hf
  exact own_via st (k T' h' X' e' W' (Fr.snoc X' N g) (Arv.set Ar q S Nn H G hf W' i hi hlen))
theorem own_stI (X : Stand p l e R s m args below meth c T locs cells slots) (hx : p.tables.exec = Jvm.exec) (hZ : Z.Warmed39 s.vm) (eT : T.heap = h) {a : Addr} {kk : ClassId} {z : Int32} {vs : List Value} {dv : Value} (A : Arv Z h a kk .int z vs dv) {j : Int32} {x : Int32} (hj : ¬ j < 0 ∧ j < z) (i : Nat) (hi : j.toNatClampNeg = i) (hlen : i < vs.length) {n0 : Nat} (N : Fr n0 locs) (g : n0 ≤ a) {pc pc' : Nat} {Ls : Array Slot} {rest : List Value} (hd : decode c.code pc = .ok (.iastore, 1)) (hp : pc + 1 = pc')
    (k : ∀ T' h', Stand p l e R s m args below meth c T' (locs ++ [⟨a, j.toNatClampNeg⟩]) cells slots → T'.heap = h' → Wr h h' a j.toNatClampNeg (.int x) → Fr n0 (locs ++ [⟨a, j.toNatClampNeg⟩]) → Arv Z h' a kk .int z (vs.set i (.int x)) dv → own_Ends p e below Φ (T'.setTop (mkF m pc' Ls rest))) : own_Ends p e below Φ (T.setTop (mkF m pc Ls (.int x :: .int j :: .ref a :: rest))) := by
  subst hp; obtain ⟨cl, Ar, q, S, Nn, H, G⟩ := A
  obtain ⟨T', h', X', e', W', st⟩ := Jvm.RoadKit.stI X hx hZ eT Ar (j := j) (x := x) (inb_of S hj) (g := mkF m pc Ls (.int x :: .int j :: .ref a :: rest)) rfl rfl hd
  skip
  exact own_via st (k T' h' X' e' W' (Fr.snoc X' N g) (Arv.set Ar q S Nn H G rfl W' i hi hlen))
theorem own_stB (X : Stand p l e R s m args below meth c T locs cells slots) (hx : p.tables.exec = Jvm.exec) (hZ : Z.Warmed39 s.vm) (eT : T.heap = h) {a : Addr} {kk : ClassId} {z : Int32} {vs : List Value} {dv : Value} (A : Arv Z h a kk .byte z vs dv) {j : Int32} {x : Int32} (hj : ¬ j < 0 ∧ j < z) (i : Nat) (hi : j.toNatClampNeg = i) (hlen : i < vs.length) (hn : x.toInt8.toInt32 = x) {n0 : Nat} (N : Fr n0 locs) (g : n0 ≤ a) {pc pc' : Nat} {Ls : Array Slot} {rest : List Value} (hd : decode c.code pc = .ok (.bastore, 1)) (hp : pc + 1 = pc')
    (k : ∀ T' h', Stand p l e R s m args below meth c T' (locs ++ [⟨a, j.toNatClampNeg⟩]) cells slots → T'.heap = h' → Wr h h' a j.toNatClampNeg (.int x) → Fr n0 (locs ++ [⟨a, j.toNatClampNeg⟩]) → Arv Z h' a kk .byte z (vs.set i (.int x)) dv → own_Ends p e below Φ (T'.setTop (mkF m pc' Ls rest))) : own_Ends p e below Φ (T.setTop (mkF m pc Ls (.int x :: .int j :: .ref a :: rest))) := by
  subst hp; obtain ⟨cl, Ar, q, S, Nn, H, G⟩ := A
  obtain ⟨T', h', X', e', W', st⟩ := Jvm.RoadKit.stB X hx hZ eT Ar (j := j) (x := x) (inb_of S hj) (g := mkF m pc Ls (.int x :: .int j :: .ref a :: rest)) rfl rfl hd
  have W' : Wr h h' a j.toNatClampNeg (.int x.toInt8.toInt32) := W'
  have hf := fits_nar_byte x
  rw [hn] at W' hf
  exact own_via st (k T' h' X' e' W' (Fr.snoc X' N g) (Arv.set Ar q S Nn H G hf W' i hi hlen))
theorem own_stR (X : Stand p l e R s m args below meth c T locs cells slots) (hx : p.tables.exec = Jvm.exec) (hZ : Z.Warmed39 s.vm) (eT : T.heap = h) {a : Addr} {kk : ClassId} {z : Int32} {ty : FieldType} {vs : List Value} {dv : Value} (A : Arv Z h a kk ty z vs dv) (hty : ty.isReference = true) {j : Int32} {v : Value} (hv : fits ty v = true) (F : Sto Z h a v) (hj : ¬ j < 0 ∧ j < z) (i : Nat) (hi : j.toNatClampNeg = i) (hlen : i < vs.length) {n0 : Nat} (N : Fr n0 locs) (g : n0 ≤ a) {pc pc' : Nat} {Ls : Array Slot} {rest : List Value} (hd : decode c.code pc = .ok (.aastore, 1)) (hp : pc + 1 = pc')
    (k : ∀ T' h', Stand p l e R s m args below meth c T' (locs ++ [⟨a, j.toNatClampNeg⟩]) cells slots → T'.heap = h' → Wr h h' a j.toNatClampNeg v → Fr n0 (locs ++ [⟨a, j.toNatClampNeg⟩]) → Arv Z h' a kk ty z (vs.set i v) dv → own_Ends p e below Φ (T'.setTop (mkF m pc' Ls rest))) : own_Ends p e below Φ (T.setTop (mkF m pc Ls (v :: .int j :: .ref a :: rest))) := by
  subst hp; obtain ⟨cl, Ar, q, S, Nn, H, G⟩ := A
  obtain ⟨T', h', X', e', W', st⟩ := Jvm.RoadKit.stR X hx hZ eT Ar (j := j) (inb_of S hj) hty F (g := mkF m pc Ls (v :: .int j :: .ref a :: rest)) rfl rfl hd
  exact own_via st (k T' h' X' e' W' (Fr.snoc X' N g) (Arv.set Ar q S Nn H G hv W' i hi hlen))
theorem own_newR (X : Stand p l e R s m args below meth c T locs cells slots) (hx : p.tables.exec = Jvm.exec) (hZ : Z.Warmed39 s.vm) {own C : String} {index : Nat} (hown : s.vm.findClass own = some m.cls) (w1 : (Jvm.Cond.classLink own index C).before a0 Z = true) (w2 : (Jvm.Cond.arrayOver (.object C)).before a0 Z = true) (eT : T.heap = h) {pc pc' : Nat} {Ls : Array Slot} {rest : List Value} {n : Int32} (hd : decode c.code pc = .ok (.anewarray index, 3)) (hn : ¬ n < 0) (cap : Nat) (hcap : n.toNatClampNeg ≤ cap) (hb : cap * 8 ≤ 536870912) (hc : cells + 1 ≤ R.cells) (hl : slots + cap ≤ R.slots) (hp : pc + 3 = pc')
    (k : ∀ T' h' b kk, Stand p l e R s m args below meth c T' locs (cells + 1) (slots + cap) → T'.heap = h' → b = h.size → Ext h h' → Arv Z h' b kk (.object C) n [] .null → Ovr Z kk C → own_Ends p e below Φ (T'.setTop (mkF m pc' Ls (.ref b :: rest)))) : own_Ends p e below Φ (T.setTop (mkF m pc Ls (.int n :: rest))) := by
  subst hp; obtain ⟨T', h', cA, X', e', E', A', O', st⟩ := newR X hx hZ hown w1 w2 eT (g := mkF m pc Ls (.int n :: rest)) rfl hd rfl hn hcap hb hc hl
  exact own_via st (k T' h' _ cA X' e' rfl E' (Arv.new A' hn) O')
theorem own_arraylength (X : Stand p l e R s m args below meth c T locs cells slots) (hx : p.tables.exec = Jvm.exec) (hZ : Z.Warmed39 s.vm) (eT : T.heap = h) {a : Addr} {kk : ClassId} {z : Int32} {ty : FieldType} {vs : List Value} {dv : Value} (A : Arv Z h a kk ty z vs dv) {pc pc' : Nat} {Ls : Array Slot} {rest : List Value} (hd : decode c.code pc = .ok (.arraylength, 1)) (hp : pc + 1 = pc') (k : own_Ends p e below Φ (T.setTop (mkF m pc' Ls (.int z :: rest)))) : own_Ends p e below Φ (T.setTop (mkF m pc Ls (.ref a :: rest))) := by
  subst hp; obtain ⟨cl, Ar, q, S, Nn, H, G⟩ := A
  refine own_via (X.arraylength hx (by rw [eT]; exact Ar.1) (State.isArrayOf_alike hZ.alike Ar.2.1) (g := mkF m pc Ls (.ref a :: rest)) rfl rfl hd) ?_
  rw [len_of S Nn]; exact k
theorem own_iaload (X : Stand p l e R s m args below meth c T locs cells slots) (hx : p.tables.exec = Jvm.exec) (hZ : Z.Warmed39 s.vm) (eT : T.heap = h) {a : Addr} {kk : ClassId} {z : Int32} {vs : List Value} {dv : Value} (A : Arv Z h a kk .int z vs dv) {j : Int32} {x : Int32} (hj : ¬ j < 0 ∧ j < z) (hv : vs.getD j.toNatClampNeg dv = .int x) {pc pc' : Nat} {Ls : Array Slot} {rest : List Value} (hd : decode c.code pc = .ok (.iaload, 1)) (hp : pc + 1 = pc') (k : own_Ends p e below Φ (T.setTop (mkF m pc' Ls (.int x :: rest)))) : own_Ends p e below Φ (T.setTop (mkF m pc Ls (.int j :: .ref a :: rest))) := by
  subst hp; obtain ⟨cl, Ar, q, S, Nn, H, G⟩ := A
  exact own_via (X.iaload hx (j := j) (v := .int x) (by rw [eT]; exact Ar.1) (State.isArrayOf_alike hZ.alike Ar.2.1) Ar.2.2 (inb_of S hj) (H.at (inb_of S hj) hv) (g := mkF m pc Ls (.int j :: .ref a :: rest)) rfl rfl hd) k
theorem own_caload (X : Stand p l e R s m args below meth c T locs cells slots) (hx : p.tables.exec = Jvm.exec) (hZ : Z.Warmed39 s.vm) (eT : T.heap = h) {a : Addr} {kk : ClassId} {z : Int32} {vs : List Value} {dv : Value} (A : Arv Z h a kk .char z vs dv) {j : Int32} {x : Int32} (hj : ¬ j < 0 ∧ j < z) (hv : vs.getD j.toNatClampNeg dv = .int x) {pc pc' : Nat} {Ls : Array Slot} {rest : List Value} (hd : decode c.code pc = .ok (.caload, 1)) (hp : pc + 1 = pc') (k : own_Ends p e below Φ (T.setTop (mkF m pc' Ls (.int x :: rest)))) : own_Ends p e below Φ (T.setTop (mkF m pc Ls (.int j :: .ref a :: rest))) := by
  subst hp; obtain ⟨cl, Ar, q, S, Nn, H, G⟩ := A
  exact own_via (X.caload hx (j := j) (v := .int x) (by rw [eT]; exact Ar.1) (State.isArrayOf_alike hZ.alike Ar.2.1) Ar.2.2 (inb_of S hj) (H.at (inb_of S hj) hv) (g := mkF m pc Ls (.int j :: .ref a :: rest)) rfl rfl hd) k
theorem own_baloadBytes (X : Stand p l e R s m args below meth c T locs cells slots) (hx : p.tables.exec = Jvm.exec) (hZ : Z.Warmed39 s.vm) (eT : T.heap = h) {a : Addr} {kk : ClassId} {z : Int32} {vs : List Value} {dv : Value} (A : Arv Z h a kk .byte z vs dv) {j : Int32} {x : Int32} (hj : ¬ j < 0 ∧ j < z) (hv : vs.getD j.toNatClampNeg dv = .int x) {pc pc' : Nat} {Ls : Array Slot} {rest : List Value} (hd : decode c.code pc = .ok (.baload, 1)) (hp : pc + 1 = pc') (k : own_Ends p e below Φ (T.setTop (mkF m pc' Ls (.int x :: rest)))) : own_Ends p e below Φ (T.setTop (mkF m pc Ls (.int j :: .ref a :: rest))) := by
  subst hp; obtain ⟨cl, Ar, q, S, Nn, H, G⟩ := A
  exact own_via (X.baloadBytes hx (j := j) (v := .int x) (by rw [eT]; exact Ar.1) (State.isArrayOf_alike hZ.alike Ar.2.1) Ar.2.2 (inb_of S hj) (H.at (inb_of S hj) hv) (g := mkF m pc Ls (.int j :: .ref a :: rest)) rfl rfl hd) k
theorem own_aaload (X : Stand p l e R s m args below meth c T locs cells slots) (hx : p.tables.exec = Jvm.exec) (hZ : Z.Warmed39 s.vm) (eT : T.heap = h) {a : Addr} {kk : ClassId} {z : Int32} {ty : FieldType} (hty : ty.isReference = true) {vs : List Value} {dv : Value} (A : Arv Z h a kk ty z vs dv) {j : Int32} {v : Value} (hj : ¬ j < 0 ∧ j < z) (hv : vs.getD j.toNatClampNeg dv = v) {pc pc' : Nat} {Ls : Array Slot} {rest : List Value} (hd : decode c.code pc = .ok (.aaload, 1)) (hp : pc + 1 = pc') (k : own_Ends p e below Φ (T.setTop (mkF m pc' Ls (v :: rest)))) : own_Ends p e below Φ (T.setTop (mkF m pc Ls (.int j :: .ref a :: rest))) := by
  subst hp; obtain ⟨cl, Ar, q, S, Nn, H, G⟩ := A
  exact own_via (X.aaload hx (j := j) (v := v) (by rw [eT]; exact Ar.1) (State.isArrayOf_alike hZ.alike Ar.2.1) hty Ar.2.2 (inb_of S hj) (H.at (inb_of S hj) hv) (g := mkF m pc Ls (.int j :: .ref a :: rest)) rfl rfl hd) k
theorem own_castY (X : Stand p l e R s m args below meth c T locs cells slots) (hx : p.tables.exec = Jvm.exec) (hZ : Z.Warmed39 s.vm) {own C : String} {index : Nat} (hown : s.vm.findClass own = some m.cls) (w : (Jvm.Cond.classLink own index C).before a0 Z = true) (eT : T.heap = h) {a : Addr} (F : Ins Z h a C true) {pc pc' : Nat} {Ls : Array Slot} {rest : List Value} (hd : decode c.code pc = .ok (.checkcast index, 3)) (hp : pc + 3 = pc') (k : ∀ T', Stand p l e R s m args below meth c T' locs cells slots → T'.heap = h → own_Ends p e below Φ (T'.setTop (mkF m pc' Ls (.ref a :: rest)))) : own_Ends p e below Φ (T.setTop (mkF m pc Ls (.ref a :: rest))) := by
  subst hp; obtain ⟨T', X', e', st⟩ := castY X hx hZ hown w eT F (g := mkF m pc Ls (.ref a :: rest)) rfl rfl hd
  exact own_via st (k T' X' e')
theorem own_castN (X : Stand p l e R s m args below meth c T locs cells slots) (hx : p.tables.exec = Jvm.exec) {index : Nat} {pc pc' : Nat} {Ls : Array Slot} {rest : List Value} (hd : decode c.code pc = .ok (.checkcast index, 3)) (hp : pc + 3 = pc') (k : own_Ends p e below Φ (T.setTop (mkF m pc' Ls (.null :: rest)))) : own_Ends p e below Φ (T.setTop (mkF m pc Ls (.null :: rest))) := by
  subst hp; exact own_via (fun _ q => X.checkcastNull hx (g := mkF m pc Ls (.null :: rest)) rfl rfl hd _ q) k
theorem own_instY (X : Stand p l e R s m args below meth c T locs cells slots) (hx : p.tables.exec = Jvm.exec) (hZ : Z.Warmed39 s.vm) {own C : String} {index : Nat} (hown : s.vm.findClass own = some m.cls) (w : (Jvm.Cond.classLink own index C).before a0 Z = true) (eT : T.heap = h) {a : Addr} (F : Ins Z h a C true) {pc pc' : Nat} {Ls : Array Slot} {rest : List Value} (hd : decode c.code pc = .ok (.instanceof index, 3)) (hp : pc + 3 = pc') (k : ∀ T', Stand p l e R s m args below meth c T' locs cells slots → T'.heap = h → own_Ends p e below Φ (T'.setTop (mkF m pc' Ls (.int 1 :: rest)))) : own_Ends p e below Φ (T.setTop (mkF m pc Ls (.ref a :: rest))) := by
  subst hp; obtain ⟨T', X', e', st⟩ := instY X hx hZ hown w eT F (g := mkF m pc Ls (.ref a :: rest)) rfl rfl hd
  exact own_via st (k T' X' e')
theorem own_instNull (X : Stand p l e R s m args below meth c T locs cells slots) (hx : p.tables.exec = Jvm.exec) {index : Nat} {pc pc' : Nat} {Ls : Array Slot} {rest : List Value} (hd : decode c.code pc = .ok (.instanceof index, 3)) (hp : pc + 3 = pc') (k : own_Ends p e below Φ (T.setTop (mkF m pc' Ls (.int 0 :: rest)))) : own_Ends p e below Φ (T.setTop (mkF m pc Ls (.null :: rest))) := by
  subst hp; exact own_via (fun _ q => X.instanceofNull hx (g := mkF m pc Ls (.null :: rest)) rfl rfl hd _ q) k
theorem own_instN (X : Stand p l e R s m args below meth c T locs cells slots) (hx : p.tables.exec = Jvm.exec) (hZ : Z.Warmed39 s.vm) {own K C : String} {index : Nat} (hown : s.vm.findClass own = some m.cls) (w : (Jvm.Cond.classLink own index K).before a0 Z = true) (eT : T.heap = h) {a : Addr} (E : Exa Z h a C) (F : ∃ c t, Z.vm.findClass C = some c ∧ Z.vm.findClass K = some t ∧ Z.vm.assignable c t = false) {pc pc' : Nat} {Ls : Array Slot} {rest : List Value} (hd : decode c.code pc = .ok (.instanceof index, 3)) (hp : pc + 3 = pc') (k : ∀ T', Stand p l e R s m args below meth c T' locs cells slots → T'.heap = h → own_Ends p e below Φ (T'.setTop (mkF m pc' Ls (.int 0 :: rest)))) : own_Ends p e below Φ (T.setTop (mkF m pc Ls (.ref a :: rest))) := by
  subst hp; obtain ⟨T', X', e', st⟩ := instNo X hx hZ hown w eT E F (g := mkF m pc Ls (.ref a :: rest)) rfl rfl hd
  exact own_via st (k T' X' e')
theorem own_sto {a y : Addr} {kk : ClassId} {ty : FieldType} {z : Int32} {vs : List Value} {dv : Value} {C : String} (A : Arv Z h a kk ty z vs dv) (O : Ovr Z kk C) (I : Ins Z h y C true) : Sto Z h a (.ref y) := by
  obtain ⟨cl, Ar, q, -⟩ := A
  exact Sto.ofV Ar q O I
theorem own_ldcDouble (X : Stand p l e R s m args below meth c T locs cells slots) (hx : p.tables.exec = Jvm.exec) (hZ : Z.Warmed39 s.vm) {own : String} {index : Nat} {v : UInt64} (hown : s.vm.findClass own = some m.cls) (w : (Jvm.Cond.constantDouble own index v).before a0 Z = true) {pc pc' : Nat} {Ls : Array Slot} {rest : List Value} (hd : decode c.code pc = .ok (.ldc2_w index, 3)) (hp : pc + 3 = pc') (h : own_Ends p e below Φ (T.setTop (mkF m pc' Ls (.double v :: rest)))) : own_Ends p e below Φ (T.setTop (mkF m pc Ls rest)) := by
  subst hp; exact own_via (X.ldc2DoubleC hx hown (mvT hZ w) (g := mkF m pc Ls rest) rfl hd) h
theorem own_dcmp (X : Stand p l e R s m args below meth c T locs cells slots) (hx : p.tables.exec = Jvm.exec) {pc pc' : Nat} {Ls : Array Slot} {rest : List Value} {o : CmpOp} {x y : UInt64} (v : Int32) (hd : decode c.code pc = .ok (.dcmp o, 1)) (hv : cmpValue (FP.dcmp x y) o = v) (hp : pc + 1 = pc') (h : own_Ends p e below Φ (T.setTop (mkF m pc' Ls (.int v :: rest)))) : own_Ends p e below Φ (T.setTop (mkF m pc Ls (.double y :: .double x :: rest))) := by
  subst hp; exact own_via (fun _ k => XS.dcmpS X.here hx (g := mkF m pc Ls (.double y :: .double x :: rest)) rfl hd rfl hv k) h
theorem own_dload (X : Stand p l e R s m args below meth c T locs cells slots) (hx : p.tables.exec = Jvm.exec) {pc pc' : Nat} {Ls : Array Slot} {rest : List Value} {k : Nat} {v : UInt64} (hd : decode c.code pc = .ok (.dload k, 2)) (hl : Ls[k]? = some (.val (.double v))) (hp : pc + 2 = pc') (h : own_Ends p e below Φ (T.setTop (mkF m pc' Ls (.double v :: rest)))) : own_Ends p e below Φ (T.setTop (mkF m pc Ls rest)) := by
  subst hp; exact own_via (fun _ k => XS.dload X.here hx (g := mkF m pc Ls rest) rfl hd hl k) h
theorem own_dloadN (X : Stand p l e R s m args below meth c T locs cells slots) (hx : p.tables.exec = Jvm.exec) {pc pc' : Nat} {Ls : Array Slot} {rest : List Value} {k : Fin 4} {v : UInt64} (hd : decode c.code pc = .ok (.dload_n k, 1)) (hl : Ls[k.val]? = some (.val (.double v))) (hp : pc + 1 = pc') (h : own_Ends p e below Φ (T.setTop (mkF m pc' Ls (.double v :: rest)))) : own_Ends p e below Φ (T.setTop (mkF m pc Ls rest)) := by
  subst hp; exact own_via (fun _ k => XS.dloadN X.here hx (g := mkF m pc Ls rest) rfl hd hl k) h
theorem own_dstore (X : Stand p l e R s m args below meth c T locs cells slots) (hx : p.tables.exec = Jvm.exec) {pc pc' : Nat} {Ls : Array Slot} {rest : List Value} {k : Nat} {v : UInt64} (Ls' : Array Slot) (hd : decode c.code pc = .ok (.dstore k, 2)) (hl : storeLocals Ls k (.double v) = some Ls') (hp : pc + 2 = pc') (h : own_Ends p e below Φ (T.setTop (mkF m pc' Ls' rest))) : own_Ends p e below Φ (T.setTop (mkF m pc Ls (.double v :: rest))) := by
  subst hp; exact own_via (fun _ k => XS.dstore X.here hx (g := mkF m pc Ls (.double v :: rest)) rfl hd rfl hl k) h
theorem own_dstoreN (X : Stand p l e R s m args below meth c T locs cells slots) (hx : p.tables.exec = Jvm.exec) {pc pc' : Nat} {Ls : Array Slot} {rest : List Value} {k : Fin 4} {v : UInt64} (Ls' : Array Slot) (hd : decode c.code pc = .ok (.dstore_n k, 1)) (hl : storeLocals Ls k.val (.double v) = some Ls') (hp : pc + 1 = pc') (h : own_Ends p e below Φ (T.setTop (mkF m pc' Ls' rest))) : own_Ends p e below Φ (T.setTop (mkF m pc Ls (.double v :: rest))) := by
  subst hp; exact own_via (fun _ k => XS.dstoreN X.here hx (g := mkF m pc Ls (.double v :: rest)) rfl hd rfl hl k) h
theorem own_ldcLong (X : Stand p l e R s m args below meth c T locs cells slots) (hx : p.tables.exec = Jvm.exec) (hZ : Z.Warmed39 s.vm) {own : String} {index : Nat} {v : Int64} (hown : s.vm.findClass own = some m.cls) (w : (Jvm.Cond.constantLong own index v).before a0 Z = true) {pc pc' : Nat} {Ls : Array Slot} {rest : List Value} (hd : decode c.code pc = .ok (.ldc2_w index, 3)) (hp : pc + 3 = pc') (h : own_Ends p e below Φ (T.setTop (mkF m pc' Ls (.long v :: rest)))) : own_Ends p e below Φ (T.setTop (mkF m pc Ls rest)) := by
  subst hp; exact own_via (X.ldc2Long hx hown (mvT hZ w) (g := mkF m pc Ls rest) rfl hd) h
end OwnKitA
section OwnStr
theorem own_c0 {P : Int32 → Prop} : ∀ c ∈ ([] : List Int32), P c := fun _ q => nomatch q
theorem own_c2 {P : Int32 → Prop} {c : Int32} {L : List Int32} (h : P c) (r : ∀ x ∈ L, P x) : ∀ x ∈ c :: L, P x := fun x q => (List.mem_cons.mp q).elim (fun e => e ▸ h) (r x)
theorem own_up {cs : List Int32} (h : ∀ c ∈ cs, ¬ c < 0 ∧ ¬ (255 : Int32) < c) : ∀ c ∈ cs, ¬ c < 0 ∧ ¬ (65535 : Int32) < c := fun c hc => ⟨(h c hc).1, fun q => (h c hc).2 (by rw [Int32.lt_iff_toInt_lt] at q ⊢; have e1 : (65535 : Int32).toInt = 65535 := rfl; have e2 : (255 : Int32).toInt = 255 := rfl; omega)⟩
theorem own_ch (x : Int32) : ¬ (x &&& (255 : Int32)).toUInt32.toUInt16.toUInt32.toInt32 < 0 ∧ ¬ (255 : Int32) < (x &&& (255 : Int32)).toUInt32.toUInt16.toUInt32.toInt32 := by
  rw [i2c_mask]
  have h := c_mask x 255 8 (by decide) (by decide)
  constructor
  · rw [Int32.lt_iff_toInt_lt, h]; have e : (0 : Int32).toInt = 0 := rfl; omega
  · rw [Int32.lt_iff_toInt_lt, h]; have e : (255 : Int32).toInt = 255 := rfl; omega
theorem own_narC {c : Int32} (h : ¬ c < 0 ∧ ¬ (255 : Int32) < c) : nar .char c = c := by
  obtain ⟨h1, h2⟩ := h
  rw [Int32.lt_iff_toInt_lt] at h1 h2
  have e0 : (0 : Int32).toInt = 0 := rfl
  have e1 : (255 : Int32).toInt = 255 := rfl
  have q := c_i2c c
  refine Int32.toInt_inj.mp ?_
  show c.toUInt32.toUInt16.toUInt32.toInt32.toInt = c.toInt
  omega
def own_Str (Z : State) (h : Heap) (a : Addr) (cs : List Int32) : Prop := ∃ (t : Addr) (kb : ClassId) (cd N : Int32) (vs : List Value), Exa Z h a "java/lang/String" ∧ Fld Z h a "java/lang/String" "value" "[B" (.ref t) ∧ Fld Z h a "java/lang/String" "coder" "B" (.int cd) ∧ Arv Z h t kb .byte N vs (.int 0) ∧ StrChars.Road.CodA cs cd N vs ∧ (∀ c ∈ cs, ¬ c < 0 ∧ ¬ (65535 : Int32) < c) ∧ cs.length ≤ 4000
theorem own_Str.ext {Z : State} {h h' : Heap} {a : Addr} {cs : List Int32} (F : own_Str Z h a cs) (E : Ext h h') : own_Str Z h' a cs := by
  obtain ⟨t, kb, cd, N, vs, h1, h2, h3, h4, h5⟩ := F
  exact ⟨t, kb, cd, N, vs, h1.ext E, h2.ext E, h3.ext E, h4.ext E, h5⟩
theorem own_Str.keep0 {Z : State} {h h' : Heap} {a : Addr} {cs : List Int32} (F : own_Str Z h a cs) (K : Keep h h' []) : own_Str Z h' a cs := by
  obtain ⟨t, kb, cd, N, vs, h1, h2, h3, h4, h5⟩ := F
  exact ⟨t, kb, cd, N, vs, h1.keep K, h2.keep K nin0, h3.keep K nin0, h4.keep K nin0, h5⟩
theorem own_safeNull {Z : State} {EL : List (String × Nat)} {vm : Vm} {h : Heap} {x : Addr} (hal : Z.vm.Alike vm) (E : Exa Z h x "java/lang/String") (F : Fld Z h x "java/lang/String" "value" "[B" .null) : Safe Z EL vm h x := fun B => by
  obtain ⟨p, -, u, a, -, q, -, G, rfl | rfl⟩ := B
  · have ha := (show h[q.sa]? = some q.sC from G.ha)
    obtain ⟨cell, cf, k, i, f, h1, h2, -, -, -, -, h7⟩ := F
    cases ha.symm.trans h1
    obtain ⟨cS, ⟨⟨-, -, -, ⟨c1, k1, i1, f1, -⟩, -, -, -, v1, -⟩, -⟩, -⟩ := G
    obtain ⟨k3, e3, -⟩ := State.fieldFound?_setVm (s := Z) hal h2
    have e4 := (show (Wst Z vm h).fieldFound? _ _ _ = _ from e3).symm.trans f1
    simp only [Option.some.injEq, Prod.mk.injEq] at e4
    rw [← e4.2.2.2, h7] at v1
    cases v1
  · obtain ⟨cell, k, e1, e2, e3, -, -⟩ := E
    cases (show h[q.sd]? = some q.SA from G.hd).symm.trans e1
    obtain ⟨cS, -, -, f, -⟩ := G
    have f' : vm.findClass "[B" = some q.SA.cls := f
    rw [hal.findClass] at f'
    obtain ⟨k1, q1, q2⟩ := Vm.findClass_spec f'
    obtain ⟨k2, q3, q4⟩ := Vm.findClass_spec e2
    cases q1.symm.trans q3
    exact absurd (q2.symm.trans q4) (by decide)
end OwnStr
theorem own_pd0 : parseMethodDescriptor "(Ljava/lang/Object;)Z" = some ⟨[(.object "java/lang/Object")], some .boolean⟩ := by decide +kernel
theorem own_pd1 : parseMethodDescriptor "([C)V" = some ⟨[(.array .char)], none⟩ := by decide +kernel
theorem own_pd2 : parseMethodDescriptor "(Ljava/lang/String;)Z" = some ⟨[(.object "java/lang/String")], some .boolean⟩ := by decide +kernel
theorem own_pd3 : parseMethodDescriptor "(Ljava/lang/String;)D" = some ⟨[(.object "java/lang/String")], some .double⟩ := by decide +kernel
theorem own_pd4 : parseMethodDescriptor "(I)C" = some ⟨[.int], some .char⟩ := by decide +kernel
theorem own_d_prog_14_method_7_code_0 : decode prog_14_method_7_code 0 = .ok (.aload_n 0, 1) := by decide +kernel
theorem own_d_prog_14_method_7_code_1 : decode prog_14_method_7_code 1 = .ok (.ldc 222, 2) := by decide +kernel
theorem own_d_prog_14_method_7_code_3 : decode prog_14_method_7_code 3 = .ok (.invokevirtual 27, 3) := by decide +kernel
theorem own_d_prog_14_method_7_code_6 : decode prog_14_method_7_code 6 = .ok (.ifCond .ne 21, 3) := by decide +kernel
theorem own_d_prog_14_method_7_code_27 : decode prog_14_method_7_code 27 = .ok (.iconst 1, 1) := by decide +kernel
theorem own_d_prog_14_method_7_code_28 : decode prog_14_method_7_code 28 = .ok (.goto 4, 3) := by decide +kernel
theorem own_d_prog_14_method_7_code_32 : decode prog_14_method_7_code 32 = .ok (.ireturn, 1) := by decide +kernel
theorem own_d_prog_14_method_7_code_9 : decode prog_14_method_7_code 9 = .ok (.aload_n 0, 1) := by decide +kernel
theorem own_d_prog_14_method_7_code_10 : decode prog_14_method_7_code 10 = .ok (.ldc 224, 2) := by decide +kernel
theorem own_d_prog_14_method_7_code_12 : decode prog_14_method_7_code 12 = .ok (.invokevirtual 27, 3) := by decide +kernel
theorem own_d_prog_14_method_7_code_15 : decode prog_14_method_7_code 15 = .ok (.ifCond .ne 12, 3) := by decide +kernel
theorem own_d_prog_14_method_7_code_18 : decode prog_14_method_7_code 18 = .ok (.aload_n 0, 1) := by decide +kernel
theorem own_d_prog_14_method_7_code_19 : decode prog_14_method_7_code 19 = .ok (.ldc 226, 2) := by decide +kernel
theorem own_d_prog_14_method_7_code_21 : decode prog_14_method_7_code 21 = .ok (.invokevirtual 27, 3) := by decide +kernel
theorem own_d_prog_14_method_7_code_24 : decode prog_14_method_7_code 24 = .ok (.ifCond .eq 7, 3) := by decide +kernel
theorem own_d_prog_14_method_7_code_31 : decode prog_14_method_7_code 31 = .ok (.iconst 0, 1) := by decide +kernel
theorem own_pn_com_example_pincio_pincio_core_CanonicalLiterals : plainName "com/example/pincio/pincio/core/CanonicalLiterals" = true := by first | (simp [plainName, overriddenIn]; done) | decide +kernel
theorem own_d_prog_14_method_8_code_0 : decode prog_14_method_8_code 0 = .ok (.aload_n 0, 1) := by decide +kernel
theorem own_d_prog_14_method_8_code_1 : decode prog_14_method_8_code 1 = .ok (.ldc 222, 2) := by decide +kernel
theorem own_d_prog_14_method_8_code_3 : decode prog_14_method_8_code 3 = .ok (.invokevirtual 27, 3) := by decide +kernel
theorem own_d_prog_14_method_8_code_6 : decode prog_14_method_8_code 6 = .ok (.ifCond .eq 10, 3) := by decide +kernel
theorem own_d_prog_14_method_8_code_16 : decode prog_14_method_8_code 16 = .ok (.aload_n 0, 1) := by decide +kernel
theorem own_d_prog_14_method_8_code_17 : decode prog_14_method_8_code 17 = .ok (.ldc 224, 2) := by decide +kernel
theorem own_d_prog_14_method_8_code_19 : decode prog_14_method_8_code 19 = .ok (.invokevirtual 27, 3) := by decide +kernel
theorem own_d_prog_14_method_8_code_22 : decode prog_14_method_8_code 22 = .ok (.ifCond .eq 10, 3) := by decide +kernel
theorem own_d_prog_14_method_8_code_32 : decode prog_14_method_8_code 32 = .ok (.ldc2_w 232, 3) := by decide +kernel
theorem own_d_prog_14_method_8_code_35 : decode prog_14_method_8_code 35 = .ok (.dstore_n 1, 1) := by decide +kernel
theorem own_d_prog_14_method_8_code_36 : decode prog_14_method_8_code 36 = .ok (.dload_n 1, 1) := by decide +kernel
theorem own_d_prog_14_method_8_code_37 : decode prog_14_method_8_code 37 = .ok (.dreturn, 1) := by decide +kernel
theorem own_d_prog_14_method_8_code_25 : decode prog_14_method_8_code 25 = .ok (.ldc2_w 230, 3) := by decide +kernel
theorem own_d_prog_14_method_8_code_28 : decode prog_14_method_8_code 28 = .ok (.dstore_n 1, 1) := by decide +kernel
theorem own_d_prog_14_method_8_code_29 : decode prog_14_method_8_code 29 = .ok (.goto 7, 3) := by decide +kernel
theorem own_d_prog_14_method_8_code_9 : decode prog_14_method_8_code 9 = .ok (.ldc2_w 228, 3) := by decide +kernel
theorem own_d_prog_14_method_8_code_12 : decode prog_14_method_8_code 12 = .ok (.dstore_n 1, 1) := by decide +kernel
theorem own_d_prog_14_method_8_code_13 : decode prog_14_method_8_code 13 = .ok (.goto 23, 3) := by decide +kernel
theorem own_pn_com_example_pincio_pincio_core_CanonicalLiteralsSpecialPinLaw : plainName "com/example/pincio/pincio/core/CanonicalLiteralsSpecialPinLaw" = true := by first | (simp [plainName, overriddenIn]; done) | decide +kernel
set_option maxRecDepth 65536 in
theorem own_hws {a0 : Array Value} {Z : State} (hw : ∀ d ∈ tables_1, d.before a0 Z = true) : ∀ d ∈ StrChars.Road.words, d.before a0 Z = true := fun d hd => hw d ((by decide +kernel : ∀ d ∈ StrChars.Road.words, d ∈ tables_1) d hd)
set_option maxRecDepth 65536 in
theorem own_heq {a0 : Array Value} {Z : State} (hw : ∀ d ∈ tables_1, d.before a0 Z = true) : ∀ d ∈ StrChars.Road.wordsEq, d.before a0 Z = true := fun d hd => hw d ((by decide +kernel : ∀ d ∈ StrChars.Road.wordsEq, d ∈ tables_1) d hd)
set_option maxRecDepth 65536 in
theorem own_hch {a0 : Array Value} {Z : State} (hw : ∀ d ∈ tables_1, d.before a0 Z = true) : ∀ d ∈ StrChars.Road.wordsChN, d.before a0 Z = true := fun d hd => hw d ((by decide +kernel : ∀ d ∈ StrChars.Road.wordsChN, d ∈ tables_1) d hd)
set_option maxRecDepth 65536 in
theorem own_hwS {a0 : Array Value} {Z : State} (hw : ∀ d ∈ tables_1, d.before a0 Z = true) : ∀ d ∈ Bundle.stringAtoms, d.before a0 Z = true := fun d hd => hw d ((by decide +kernel : ∀ d ∈ Bundle.stringAtoms, d ∈ tables_1) d hd)
def own_isp (cs : List Int32) : Int32 := if cs = [73, 78, 70] then 1 else if cs = [45, 73, 78, 70] then 1 else if cs = [78, 97, 78] then 1 else 0
def own_spv (cs : List Int32) : UInt64 := if cs = [73, 78, 70] then 9218868437227405312 else if cs = [45, 73, 78, 70] then 18442240474082181120 else 9221120237041090560
theorem own_rem3 (k : Int32) : (k &&& (2147483647 : Int32)) % (3 : Int32) = 0 ∨ (k &&& (2147483647 : Int32)) % (3 : Int32) = 1 ∨ (k &&& (2147483647 : Int32)) % (3 : Int32) = 2 := by
  have h1 := c_mask k 2147483647 31 (by decide) (by decide)
  have h2 := (c_irem (k &&& 2147483647) 3 3 (by decide)).1 (by rw [h1]; omega)
  generalize (k &&& (2147483647 : Int32)) % (3 : Int32) = i at h2 ⊢
  have h4 : ∀ n : Int, i.toInt = n → i = Int32.ofInt n := fun n q => by rw [← q]; simp
  have h5 : i.toInt = 0 ∨ i.toInt = 1 ∨ i.toInt = 2 := by omega
  rcases h5 with h5 | h5 | h5
  · exact Or.inl (h4 _ h5)
  · exact Or.inr (Or.inl (h4 _ h5))
  · exact Or.inr (Or.inr (h4 _ h5))
theorem own_rem4 (k : Int32) : (k &&& (2147483647 : Int32)) % (4 : Int32) = 0 ∨ (k &&& (2147483647 : Int32)) % (4 : Int32) = 1 ∨ (k &&& (2147483647 : Int32)) % (4 : Int32) = 2 ∨ (k &&& (2147483647 : Int32)) % (4 : Int32) = 3 := by
  have h1 := c_mask k 2147483647 31 (by decide) (by decide)
  have h2 := (c_irem (k &&& 2147483647) 4 4 (by decide)).1 (by rw [h1]; omega)
  generalize (k &&& (2147483647 : Int32)) % (4 : Int32) = i at h2 ⊢
  have h4 : ∀ n : Int, i.toInt = n → i = Int32.ofInt n := fun n q => by rw [← q]; simp
  have h5 : i.toInt = 0 ∨ i.toInt = 1 ∨ i.toInt = 2 ∨ i.toInt = 3 := by omega
  rcases h5 with h5 | h5 | h5 | h5
  · exact Or.inl (h4 _ h5)
  · exact Or.inr (Or.inl (h4 _ h5))
  · exact Or.inr (Or.inr (Or.inl (h4 _ h5)))
  · exact Or.inr (Or.inr (Or.inr (h4 _ h5)))
set_option maxRecDepth 65536 in
set_option maxHeartbeats 40000000 in
theorem own_isSpecial (l : Launch) (Z : State) (a0 : Array Value) (hw : ∀ d ∈ tables_1, d.before a0 Z = true) (s1 : Addr) (cs : List Int32) (zc : Int32) (h0 : Heap) (n0 : Nat) (hEL : EW Z a0 consts_1) (O0 : Old Z n0 h0) (SC : Sta Z Z.heap "java/lang/String" "COMPACT_STRINGS" "Z" (.int zc)) (hzc : ¬ zc = 0) (S1 : own_Str Z h0 s1 cs) :
    own_MetH l (⟨"com/example/pincio/pincio/core/CanonicalLiterals", "isSpecial", "(Ljava/lang/String;)Z"⟩ : MethodName) prog_14_method_7_code 1 (some .boolean) ({ frames := 2, cells := 6, slots := 52, locals := 28 } : Room) Z consts_1 #[(.ref s1)] h0 (fun v h L => v = some (.int (own_isp cs)) ∧ Fr n0 L ∧ Keep h0 h []) := by
  refine own_metH (plainFor_of_name own_pn_com_example_pincio_pincio_core_CanonicalLiterals) ?_
  intro p e s m below meth c T0 hx hby hml hZ hown hnm hret hlocks X0 e0 hh0 HH0
  have ef : entryFrame m #[(.ref s1)] 1 = mkF m 0 #[.val (.ref s1)] [] := by first | (simp [entryFrame, mkF, argsToLocals, Value.category]; done) | rfl
  refine own_entry ef ?_
  have N0 := Fr.nil n0
  have K0 := Keep.refl h0 []
  have hwS := own_hwS hw
  obtain ⟨t1, kb1, cd1, Nn1, vs1, Es1, Vs1, Cs1, Ks1, cod1, hbd1, hle1⟩ := S1
  refine own_aloadN X0 hx (hb hby own_d_prog_14_method_7_code_0) rfl rfl rfl ?_
  refine own_ldcS X0 hx hZ hown (hw _ (List.mem_of_getElem? (i := 35) rfl)) hwS e0 HH0 hEL (List.mem_of_getElem? (i := 0) rfl) (vs := ((([73, 78, 70] : List Int32).map StrChars.lo8).map Value.int)) (z := (3 : Int32)) (by decide +kernel) (by decide) (by decide) (hb hby own_d_prog_14_method_7_code_1) 12 (by decide) (by decide) (by decide) (by decide) rfl ?_
  intro ls1 T1 h1 lt1 k1 X1 e1 E1 hZ hown HH1 A1 Ex1 Fc1 Fv1 V1 ne1
  have K2 := K0.ext E1
  have f3 := (Es1.ext E1)
  have f4 := (Vs1.ext E1)
  have f5 := (Cs1.ext E1)
  have f6 := (Ks1.ext E1)
  have f7 := (O0.ext E1)
  refine own_virtualB X1 hx hZ (y := (⟨"java/lang/String", "equals", "(Ljava/lang/Object;)Z"⟩ : MethodName)) (z := (⟨"java/lang/String", "equals", "(Ljava/lang/Object;)Z"⟩ : MethodName)) hown (hw _ (List.mem_of_getElem? (i := 38) rfl)) (hw _ (List.mem_of_getElem? (i := 39) rfl)) (notFace_of_selects (args := #[]) (mvT hZ (hw _ (List.mem_of_getElem? (i := 41) rfl)))) (hw _ (List.mem_of_getElem? (i := 41) rfl)) (hw _ (List.mem_of_getElem? (i := 40) rfl)) (by decide) e1 (W := 0) (ce := 0) (sl := 0) (by decide) (by decide) [(.ref ls1)] [] (by rw [hml]; rfl) f3 (fun v h' L => ((v = some (.int 1) ∧ cs = ([73, 78, 70] : List Int32)) ∨ (v = some (.int 0) ∧ ¬ cs = ([73, 78, 70] : List Int32))) ∧ L = [] ∧ h' = h1) (StrChars.Road.eqW (W := 0) hZ (own_heq hw) (kI := 4) (hw _ (List.mem_of_getElem? (i := 3) rfl)) f3 f4 f5 f6 cod1 hbd1 hle1 Ex1 Fv1 Fc1 V1 (StrChars.Road.codOf (cs := [73, 78, 70]) (n := 3) rfl (by decide)) (by decide) (Nat.le_of_ble_eq_true rfl) (SC.ext f7.2) hzc (by decide) (by decide)) own_pd0 rfl rfl rfl (hb hby own_d_prog_14_method_7_code_3) rfl ?_
  intro v8 T8 L8 X8 hQ8
  obtain ⟨hv8, rfl, hh8⟩ := hQ8
  have N8 := Fr.app N0 (Fr.nil n0)
  obtain rfl : v8 = some (.int (if cs = ([73, 78, 70] : List Int32) then (1 : Int32) else 0)) := by rcases hv8 with ⟨rfl, q⟩ | ⟨rfl, q⟩ <;> simp [q]
  show own_Ends p e below _ (T8.setTop (mkF m 6 #[.val (.ref s1)] [(.int (if cs = ([73, 78, 70] : List Int32) then (1 : Int32) else 0))]))
  refine own_if_ne X8 hx (hb hby own_d_prog_14_method_7_code_6) (by decide) rfl rfl (fun hc6_9 => ?_) (fun hc6_9 => ?_)
  · refine own_iconst X8 hx (1 : Int32) (hb hby own_d_prog_14_method_7_code_27) (by decide) rfl ?_
    refine own_goto X8 hx (hb hby own_d_prog_14_method_7_code_28) (by decide) rfl ?_
    exact own_retNH X8 hx hZ hh8 HH1 hEL hlocks hret (by simp) (hb hby own_d_prog_14_method_7_code_32) (by decide) (by decide) (by decide) ⟨congrArg (fun q => some (Value.int q)) (by simp_all [own_isp]), N8, by rw [hh8]; exact K2⟩
  · refine own_aloadN X8 hx (hb hby own_d_prog_14_method_7_code_9) rfl rfl rfl ?_
    refine own_ldcS X8 hx hZ hown (hw _ (List.mem_of_getElem? (i := 48) rfl)) hwS hh8 HH1 hEL (List.mem_of_getElem? (i := 1) rfl) (vs := ((([45, 73, 78, 70] : List Int32).map StrChars.lo8).map Value.int)) (z := (4 : Int32)) (by decide +kernel) (by decide) (by decide) (hb hby own_d_prog_14_method_7_code_10) 16 (by decide) (by decide) (by decide) (by decide) rfl ?_
    intro ls10 T10 h10 lt10 k10 X10 e10 E10 hZ hown HH10 A10 Ex10 Fc10 Fv10 V10 ne10
    have K11 := K2.ext E10
    have f12 := (f3.ext E10)
    have f13 := (f4.ext E10)
    have f14 := (f5.ext E10)
    have f15 := (f6.ext E10)
    have f16 := (f7.ext E10)
    refine own_virtualB X10 hx hZ (y := (⟨"java/lang/String", "equals", "(Ljava/lang/Object;)Z"⟩ : MethodName)) (z := (⟨"java/lang/String", "equals", "(Ljava/lang/Object;)Z"⟩ : MethodName)) hown (hw _ (List.mem_of_getElem? (i := 38) rfl)) (hw _ (List.mem_of_getElem? (i := 39) rfl)) (notFace_of_selects (args := #[]) (mvT hZ (hw _ (List.mem_of_getElem? (i := 41) rfl)))) (hw _ (List.mem_of_getElem? (i := 41) rfl)) (hw _ (List.mem_of_getElem? (i := 40) rfl)) (by decide) e10 (W := 0) (ce := 0) (sl := 0) (by decide) (by decide) [(.ref ls10)] [] (by rw [hml]; rfl) f12 (fun v h' L => ((v = some (.int 1) ∧ cs = ([45, 73, 78, 70] : List Int32)) ∨ (v = some (.int 0) ∧ ¬ cs = ([45, 73, 78, 70] : List Int32))) ∧ L = [] ∧ h' = h10) (StrChars.Road.eqW (W := 0) hZ (own_heq hw) (kI := 4) (hw _ (List.mem_of_getElem? (i := 3) rfl)) f12 f13 f14 f15 cod1 hbd1 hle1 Ex10 Fv10 Fc10 V10 (StrChars.Road.codOf (cs := [45, 73, 78, 70]) (n := 4) rfl (by decide)) (by decide) (Nat.le_of_ble_eq_true rfl) (SC.ext f16.2) hzc (by decide) (by decide)) own_pd0 rfl rfl rfl (hb hby own_d_prog_14_method_7_code_12) rfl ?_
    intro v17 T17 L17 X17 hQ17
    obtain ⟨hv17, rfl, hh17⟩ := hQ17
    have N17 := Fr.app N8 (Fr.nil n0)
    obtain rfl : v17 = some (.int (if cs = ([45, 73, 78, 70] : List Int32) then (1 : Int32) else 0)) := by rcases hv17 with ⟨rfl, q⟩ | ⟨rfl, q⟩ <;> simp [q]
    show own_Ends p e below _ (T17.setTop (mkF m 15 #[.val (.ref s1)] [(.int (if cs = ([45, 73, 78, 70] : List Int32) then (1 : Int32) else 0))]))
    refine own_if_ne X17 hx (hb hby own_d_prog_14_method_7_code_15) (by decide) rfl rfl (fun hc15_18 => ?_) (fun hc15_18 => ?_)
    · refine own_iconst X17 hx (1 : Int32) (hb hby own_d_prog_14_method_7_code_27) (by decide) rfl ?_
      refine own_goto X17 hx (hb hby own_d_prog_14_method_7_code_28) (by decide) rfl ?_
      exact own_retNH X17 hx hZ hh17 HH10 hEL hlocks hret (by simp) (hb hby own_d_prog_14_method_7_code_32) (by decide) (by decide) (by decide) ⟨congrArg (fun q => some (Value.int q)) (by simp_all [own_isp]), N17, by rw [hh17]; exact K11⟩
    · refine own_aloadN X17 hx (hb hby own_d_prog_14_method_7_code_18) rfl rfl rfl ?_
      refine own_ldcS X17 hx hZ hown (hw _ (List.mem_of_getElem? (i := 49) rfl)) hwS hh17 HH10 hEL (List.mem_of_getElem? (i := 2) rfl) (vs := ((([78, 97, 78] : List Int32).map StrChars.lo8).map Value.int)) (z := (3 : Int32)) (by decide +kernel) (by decide) (by decide) (hb hby own_d_prog_14_method_7_code_19) 12 (by decide) (by decide) (by decide) (by decide) rfl ?_
      intro ls19 T19 h19 lt19 k19 X19 e19 E19 hZ hown HH19 A19 Ex19 Fc19 Fv19 V19 ne19
      have K20 := K11.ext E19
      have f21 := (f12.ext E19)
      have f22 := (f13.ext E19)
      have f23 := (f14.ext E19)
      have f24 := (f15.ext E19)
      have f25 := (f16.ext E19)
      refine own_virtualB X19 hx hZ (y := (⟨"java/lang/String", "equals", "(Ljava/lang/Object;)Z"⟩ : MethodName)) (z := (⟨"java/lang/String", "equals", "(Ljava/lang/Object;)Z"⟩ : MethodName)) hown (hw _ (List.mem_of_getElem? (i := 38) rfl)) (hw _ (List.mem_of_getElem? (i := 39) rfl)) (notFace_of_selects (args := #[]) (mvT hZ (hw _ (List.mem_of_getElem? (i := 41) rfl)))) (hw _ (List.mem_of_getElem? (i := 41) rfl)) (hw _ (List.mem_of_getElem? (i := 40) rfl)) (by decide) e19 (W := 0) (ce := 0) (sl := 0) (by decide) (by decide) [(.ref ls19)] [] (by rw [hml]; rfl) f21 (fun v h' L => ((v = some (.int 1) ∧ cs = ([78, 97, 78] : List Int32)) ∨ (v = some (.int 0) ∧ ¬ cs = ([78, 97, 78] : List Int32))) ∧ L = [] ∧ h' = h19) (StrChars.Road.eqW (W := 0) hZ (own_heq hw) (kI := 4) (hw _ (List.mem_of_getElem? (i := 3) rfl)) f21 f22 f23 f24 cod1 hbd1 hle1 Ex19 Fv19 Fc19 V19 (StrChars.Road.codOf (cs := [78, 97, 78]) (n := 3) rfl (by decide)) (by decide) (Nat.le_of_ble_eq_true rfl) (SC.ext f25.2) hzc (by decide) (by decide)) own_pd0 rfl rfl rfl (hb hby own_d_prog_14_method_7_code_21) rfl ?_
      intro v26 T26 L26 X26 hQ26
      obtain ⟨hv26, rfl, hh26⟩ := hQ26
      have N26 := Fr.app N17 (Fr.nil n0)
      obtain rfl : v26 = some (.int (if cs = ([78, 97, 78] : List Int32) then (1 : Int32) else 0)) := by rcases hv26 with ⟨rfl, q⟩ | ⟨rfl, q⟩ <;> simp [q]
      show own_Ends p e below _ (T26.setTop (mkF m 24 #[.val (.ref s1)] [(.int (if cs = ([78, 97, 78] : List Int32) then (1 : Int32) else 0))]))
      refine own_if_eq X26 hx (hb hby own_d_prog_14_method_7_code_24) (by decide) rfl rfl (fun hc24_27 => ?_) (fun hc24_27 => ?_)
      · refine own_iconst X26 hx (0 : Int32) (hb hby own_d_prog_14_method_7_code_31) (by decide) rfl ?_
        exact own_retNH X26 hx hZ hh26 HH19 hEL hlocks hret (by simp) (hb hby own_d_prog_14_method_7_code_32) (by decide) (by decide) (by decide) ⟨congrArg (fun q => some (Value.int q)) (by simp_all [own_isp]), N26, by rw [hh26]; exact K20⟩
      · refine own_iconst X26 hx (1 : Int32) (hb hby own_d_prog_14_method_7_code_27) (by decide) rfl ?_
        refine own_goto X26 hx (hb hby own_d_prog_14_method_7_code_28) (by decide) rfl ?_
        exact own_retNH X26 hx hZ hh26 HH19 hEL hlocks hret (by simp) (hb hby own_d_prog_14_method_7_code_32) (by decide) (by decide) (by decide) ⟨congrArg (fun q => some (Value.int q)) (by simp_all [own_isp]), N26, by rw [hh26]; exact K20⟩
set_option maxRecDepth 65536 in
set_option maxHeartbeats 40000000 in
theorem own_special_ (l : Launch) (Z : State) (a0 : Array Value) (hw : ∀ d ∈ tables_1, d.before a0 Z = true) (s1 : Addr) (cs : List Int32) (zc : Int32) (h0 : Heap) (n0 : Nat) (hEL : EW Z a0 consts_1) (O0 : Old Z n0 h0) (SC : Sta Z Z.heap "java/lang/String" "COMPACT_STRINGS" "Z" (.int zc)) (hzc : ¬ zc = 0) (S1 : own_Str Z h0 s1 cs) :
    own_MetH l (⟨"com/example/pincio/pincio/core/CanonicalLiterals", "special", "(Ljava/lang/String;)D"⟩ : MethodName) prog_14_method_8_code 3 (some .double) ({ frames := 2, cells := 4, slots := 36, locals := 28 } : Room) Z consts_1 #[(.ref s1)] h0 (fun v h L => v = some (.double (own_spv cs)) ∧ Fr n0 L ∧ Keep h0 h []) := by
  refine own_metH (plainFor_of_name own_pn_com_example_pincio_pincio_core_CanonicalLiterals) ?_
  intro p e s m below meth c T0 hx hby hml hZ hown hnm hret hlocks X0 e0 hh0 HH0
  have ef : entryFrame m #[(.ref s1)] 3 = mkF m 0 #[.val (.ref s1), .unset, .unset] [] := by first | (simp [entryFrame, mkF, argsToLocals, Value.category]; done) | rfl
  refine own_entry ef ?_
  have N0 := Fr.nil n0
  have K0 := Keep.refl h0 []
  have hwS := own_hwS hw
  obtain ⟨t1, kb1, cd1, Nn1, vs1, Es1, Vs1, Cs1, Ks1, cod1, hbd1, hle1⟩ := S1
  refine own_aloadN X0 hx (hb hby own_d_prog_14_method_8_code_0) rfl rfl rfl ?_
  refine own_ldcS X0 hx hZ hown (hw _ (List.mem_of_getElem? (i := 35) rfl)) hwS e0 HH0 hEL (List.mem_of_getElem? (i := 0) rfl) (vs := ((([73, 78, 70] : List Int32).map StrChars.lo8).map Value.int)) (z := (3 : Int32)) (by decide +kernel) (by decide) (by decide) (hb hby own_d_prog_14_method_8_code_1) 12 (by decide) (by decide) (by decide) (by decide) rfl ?_
  intro ls1 T1 h1 lt1 k1 X1 e1 E1 hZ hown HH1 A1 Ex1 Fc1 Fv1 V1 ne1
  have K2 := K0.ext E1
  have f3 := (Es1.ext E1)
  have f4 := (Vs1.ext E1)
  have f5 := (Cs1.ext E1)
  have f6 := (Ks1.ext E1)
  have f7 := (O0.ext E1)
  refine own_virtualB X1 hx hZ (y := (⟨"java/lang/String", "equals", "(Ljava/lang/Object;)Z"⟩ : MethodName)) (z := (⟨"java/lang/String", "equals", "(Ljava/lang/Object;)Z"⟩ : MethodName)) hown (hw _ (List.mem_of_getElem? (i := 38) rfl)) (hw _ (List.mem_of_getElem? (i := 39) rfl)) (notFace_of_selects (args := #[]) (mvT hZ (hw _ (List.mem_of_getElem? (i := 41) rfl)))) (hw _ (List.mem_of_getElem? (i := 41) rfl)) (hw _ (List.mem_of_getElem? (i := 40) rfl)) (by decide) e1 (W := 0) (ce := 0) (sl := 0) (by decide) (by decide) [(.ref ls1)] [] (by rw [hml]; rfl) f3 (fun v h' L => ((v = some (.int 1) ∧ cs = ([73, 78, 70] : List Int32)) ∨ (v = some (.int 0) ∧ ¬ cs = ([73, 78, 70] : List Int32))) ∧ L = [] ∧ h' = h1) (StrChars.Road.eqW (W := 0) hZ (own_heq hw) (kI := 4) (hw _ (List.mem_of_getElem? (i := 3) rfl)) f3 f4 f5 f6 cod1 hbd1 hle1 Ex1 Fv1 Fc1 V1 (StrChars.Road.codOf (cs := [73, 78, 70]) (n := 3) rfl (by decide)) (by decide) (Nat.le_of_ble_eq_true rfl) (SC.ext f7.2) hzc (by decide) (by decide)) own_pd0 rfl rfl rfl (hb hby own_d_prog_14_method_8_code_3) rfl ?_
  intro v8 T8 L8 X8 hQ8
  obtain ⟨hv8, rfl, hh8⟩ := hQ8
  have N8 := Fr.app N0 (Fr.nil n0)
  obtain rfl : v8 = some (.int (if cs = ([73, 78, 70] : List Int32) then (1 : Int32) else 0)) := by rcases hv8 with ⟨rfl, q⟩ | ⟨rfl, q⟩ <;> simp [q]
  show own_Ends p e below _ (T8.setTop (mkF m 6 #[.val (.ref s1), .unset, .unset] [(.int (if cs = ([73, 78, 70] : List Int32) then (1 : Int32) else 0))]))
  refine own_if_eq X8 hx (hb hby own_d_prog_14_method_8_code_6) (by decide) rfl rfl (fun hc6_9 => ?_) (fun hc6_9 => ?_)
  · refine own_aloadN X8 hx (hb hby own_d_prog_14_method_8_code_16) rfl rfl rfl ?_
    refine own_ldcS X8 hx hZ hown (hw _ (List.mem_of_getElem? (i := 48) rfl)) hwS hh8 HH1 hEL (List.mem_of_getElem? (i := 1) rfl) (vs := ((([45, 73, 78, 70] : List Int32).map StrChars.lo8).map Value.int)) (z := (4 : Int32)) (by decide +kernel) (by decide) (by decide) (hb hby own_d_prog_14_method_8_code_17) 16 (by decide) (by decide) (by decide) (by decide) rfl ?_
    intro ls10 T10 h10 lt10 k10 X10 e10 E10 hZ hown HH10 A10 Ex10 Fc10 Fv10 V10 ne10
    have K11 := K2.ext E10
    have f12 := (f3.ext E10)
    have f13 := (f4.ext E10)
    have f14 := (f5.ext E10)
    have f15 := (f6.ext E10)
    have f16 := (f7.ext E10)
    refine own_virtualB X10 hx hZ (y := (⟨"java/lang/String", "equals", "(Ljava/lang/Object;)Z"⟩ : MethodName)) (z := (⟨"java/lang/String", "equals", "(Ljava/lang/Object;)Z"⟩ : MethodName)) hown (hw _ (List.mem_of_getElem? (i := 38) rfl)) (hw _ (List.mem_of_getElem? (i := 39) rfl)) (notFace_of_selects (args := #[]) (mvT hZ (hw _ (List.mem_of_getElem? (i := 41) rfl)))) (hw _ (List.mem_of_getElem? (i := 41) rfl)) (hw _ (List.mem_of_getElem? (i := 40) rfl)) (by decide) e10 (W := 0) (ce := 0) (sl := 0) (by decide) (by decide) [(.ref ls10)] [] (by rw [hml]; rfl) f12 (fun v h' L => ((v = some (.int 1) ∧ cs = ([45, 73, 78, 70] : List Int32)) ∨ (v = some (.int 0) ∧ ¬ cs = ([45, 73, 78, 70] : List Int32))) ∧ L = [] ∧ h' = h10) (StrChars.Road.eqW (W := 0) hZ (own_heq hw) (kI := 4) (hw _ (List.mem_of_getElem? (i := 3) rfl)) f12 f13 f14 f15 cod1 hbd1 hle1 Ex10 Fv10 Fc10 V10 (StrChars.Road.codOf (cs := [45, 73, 78, 70]) (n := 4) rfl (by decide)) (by decide) (Nat.le_of_ble_eq_true rfl) (SC.ext f16.2) hzc (by decide) (by decide)) own_pd0 rfl rfl rfl (hb hby own_d_prog_14_method_8_code_19) rfl ?_
    intro v17 T17 L17 X17 hQ17
    obtain ⟨hv17, rfl, hh17⟩ := hQ17
    have N17 := Fr.app N8 (Fr.nil n0)
    obtain rfl : v17 = some (.int (if cs = ([45, 73, 78, 70] : List Int32) then (1 : Int32) else 0)) := by rcases hv17 with ⟨rfl, q⟩ | ⟨rfl, q⟩ <;> simp [q]
    show own_Ends p e below _ (T17.setTop (mkF m 22 #[.val (.ref s1), .unset, .unset] [(.int (if cs = ([45, 73, 78, 70] : List Int32) then (1 : Int32) else 0))]))
    refine own_if_eq X17 hx (hb hby own_d_prog_14_method_8_code_22) (by decide) rfl rfl (fun hc22_18 => ?_) (fun hc22_18 => ?_)
    · refine own_ldcDouble X17 hx hZ hown (hw _ (List.mem_of_getElem? (i := 78) rfl)) (hb hby own_d_prog_14_method_8_code_32) rfl ?_
      refine own_dstoreN X17 hx #[.val (.ref s1), .val (.double (9221120237041090560 : UInt64)), .second] (hb hby own_d_prog_14_method_8_code_35) rfl rfl ?_
      refine own_dloadN X17 hx (hb hby own_d_prog_14_method_8_code_36) rfl rfl ?_
      exact own_retDH X17 hx hZ hh17 HH10 hEL hlocks hret (hb hby own_d_prog_14_method_8_code_37) (by decide) (by decide) ⟨congrArg (fun q => some (Value.double q)) (by simp_all [own_spv]), N17, by rw [hh17]; exact K11⟩
    · refine own_ldcDouble X17 hx hZ hown (hw _ (List.mem_of_getElem? (i := 76) rfl)) (hb hby own_d_prog_14_method_8_code_25) rfl ?_
      refine own_dstoreN X17 hx #[.val (.ref s1), .val (.double (18442240474082181120 : UInt64)), .second] (hb hby own_d_prog_14_method_8_code_28) rfl rfl ?_
      refine own_goto X17 hx (hb hby own_d_prog_14_method_8_code_29) (by decide) rfl ?_
      refine own_dloadN X17 hx (hb hby own_d_prog_14_method_8_code_36) rfl rfl ?_
      exact own_retDH X17 hx hZ hh17 HH10 hEL hlocks hret (hb hby own_d_prog_14_method_8_code_37) (by decide) (by decide) ⟨congrArg (fun q => some (Value.double q)) (by simp_all [own_spv]), N17, by rw [hh17]; exact K11⟩
  · refine own_ldcDouble X8 hx hZ hown (hw _ (List.mem_of_getElem? (i := 53) rfl)) (hb hby own_d_prog_14_method_8_code_9) rfl ?_
    refine own_dstoreN X8 hx #[.val (.ref s1), .val (.double (9218868437227405312 : UInt64)), .second] (hb hby own_d_prog_14_method_8_code_12) rfl rfl ?_
    refine own_goto X8 hx (hb hby own_d_prog_14_method_8_code_13) (by decide) rfl ?_
    refine own_dloadN X8 hx (hb hby own_d_prog_14_method_8_code_36) rfl rfl ?_
    exact own_retDH X8 hx hZ hh8 HH1 hEL hlocks hret (hb hby own_d_prog_14_method_8_code_37) (by decide) (by decide) ⟨congrArg (fun q => some (Value.double q)) (by simp_all [own_spv]), N8, by rw [hh8]; exact K2⟩
set_option maxRecDepth 65536 in
set_option maxHeartbeats 40000000 in
theorem own_law (l : Launch) (Z : State) (a0 : Array Value) (hw : ∀ d ∈ tables_1, d.before a0 Z = true) (p1 p2 p3 p4 zc : Int32) (fm : Value) (h0 : Heap) (n0 : Nat) (hEL : EW Z a0 consts_1) (O0 : Old Z n0 h0) (SC : Sta Z Z.heap "java/lang/String" "COMPACT_STRINGS" "Z" (.int zc)) (hzc : ¬ zc = 0) (SF : Sta Z Z.heap "jdk/internal/util/Preconditions" "SIOOBE_FORMATTER" "Ljava/util/function/BiFunction;" fm) (rfm : fm.isRef = true) :
    own_MetH l x code maxLocals ret room_1 Z consts_1 #[(.int p1), (.int p2), (.int p3), (.int p4)] h0 (fun v h L => v = some (.int 1) ∧ Fr n0 L) := by
  refine own_metH (plainFor_of_name own_pn_com_example_pincio_pincio_core_CanonicalLiteralsSpecialPinLaw) ?_
  intro p e s m below meth c T0 hx hby hml hZ hown hnm hret hlocks X0 e0 hh0 HH0
  have ef : entryFrame m #[(.int p1), (.int p2), (.int p3), (.int p4)] maxLocals = mkF m 0 #[.val (.int p1), .val (.int p2), .val (.int p3), .val (.int p4), .unset, .unset, .unset, .unset, .unset, .unset] [] := by first | (simp [entryFrame, mkF, argsToLocals, Value.category, maxLocals]; done) | rfl
  refine own_entry ef ?_
  have N0 := Fr.nil n0
  have K0 := Keep.refl h0 []
  have hwS := own_hwS hw
  refine own_iloadN X0 hx (hb hby at_0) rfl rfl ?_
  refine own_ldcInt X0 hx hZ hown (hw _ (List.mem_of_getElem? (i := 0) rfl)) (hb hby at_1) rfl ?_
  refine own_iand X0 hx (hb hby at_3) rfl ?_
  refine own_iconst X0 hx (3 : Int32) (hb hby at_4) (by decide) rfl ?_
  refine own_irem X0 hx (hb hby at_5) (by decide) rfl ?_
  have hk := own_rem3 p1
  generalize ((p1 &&& (2147483647 : Int32)) % (3 : Int32)) = k at hk ⊢
  refine own_istore X0 hx #[.val (.int p1), .val (.int p2), .val (.int p3), .val (.int p4), .val (.int k), .unset, .unset, .unset, .unset, .unset] (hb hby at_6) rfl rfl ?_
  refine own_iload X0 hx (hb hby at_8) rfl rfl ?_
  refine own_if_ne X0 hx (hb hby at_10) (by decide) rfl rfl (fun hc10_1 => ?_) (fun hc10_1 => ?_)
  · refine own_iload X0 hx (hb hby at_36) rfl rfl ?_
    refine own_iconst X0 hx (1 : Int32) (hb hby at_38) (by decide) rfl ?_
    refine own_icmp_ne X0 hx (hb hby at_39) (by decide) rfl rfl (fun hc39_2 => ?_) (fun hc39_2 => ?_)
    · refine own_iconst X0 hx (3 : Int32) (hb hby at_70) (by decide) rfl ?_
      refine own_newP X0 hx hZ (aty := .char) (hw _ (List.mem_of_getElem? (i := 1) rfl)) e0 (hb hby at_71) (by decide) 3 (by decide) (by decide) (by decide) (by decide) rfl ?_
      intro T3 h3 b3 k3 X3 e3 g3 E3 V3q
      have g_b3 : n0 ≤ b3 := Nat.le_trans (own_oz O0) (Nat.le_of_eq g3.symm)
      have sz_b3 : h0.size ≤ b3 := Nat.le_trans K0.1 (Nat.le_of_eq g3.symm)
      have HH4 := HH0.ext E3
      have K5 := K0.ext E3
      have V3 : Arv Z h3 b3 k3 .char (3 : Int32) [(.int (0 : Int32)), (.int (0 : Int32)), (.int (0 : Int32))] (.int (0 : Int32)) := Arv.pad V3q (pad_rep [] (.int (0 : Int32)) 3)
      refine own_dup X3 hx (hb hby at_73) rfl rfl ?_
      refine own_iconst X3 hx (0 : Int32) (hb hby at_74) (by decide) rfl ?_
      refine own_bipush X3 hx (78 : Int32) (hb hby at_75) (by decide) rfl ?_
      refine own_stC X3 hx hZ e3 V3 ⟨by decide, by decide⟩ 0 rfl (Nat.le_of_ble_eq_true rfl) (by decide) N0 g_b3 (hb hby at_77) rfl ?_
      intro T6 h6 X6 e6 W6 N6 V6
      have HH7 := HH4.wr W6 (Safe.arv hZ.alike V3 (by decide))
      have K8 := K5.wr W6 (Or.inr sz_b3)
      refine own_dup X6 hx (hb hby at_78) rfl rfl ?_
      refine own_iconst X6 hx (1 : Int32) (hb hby at_79) (by decide) rfl ?_
      refine own_bipush X6 hx (97 : Int32) (hb hby at_80) (by decide) rfl ?_
      refine own_stC X6 hx hZ e6 V6 ⟨by decide, by decide⟩ 1 rfl (Nat.le_of_ble_eq_true rfl) (by decide) N6 g_b3 (hb hby at_82) rfl ?_
      intro T9 h9 X9 e9 W9 N9 V9
      have HH10 := HH7.wr W9 (Safe.arv hZ.alike V6 (by decide))
      have K11 := K8.wr W9 (Or.inr sz_b3)
      refine own_dup X9 hx (hb hby at_83) rfl rfl ?_
      refine own_iconst X9 hx (2 : Int32) (hb hby at_84) (by decide) rfl ?_
      refine own_bipush X9 hx (78 : Int32) (hb hby at_85) (by decide) rfl ?_
      refine own_stC X9 hx hZ e9 V9 ⟨by decide, by decide⟩ 2 rfl (Nat.le_of_ble_eq_true rfl) (by decide) N9 g_b3 (hb hby at_87) rfl ?_
      intro T12 h12 X12 e12 W12 N12 V12
      have HH13 := HH10.wr W12 (Safe.arv hZ.alike V9 (by decide))
      have K14 := K11.wr W12 (Or.inr sz_b3)
      refine own_astore X12 hx #[.val (.int p1), .val (.int p2), .val (.int p3), .val (.int p4), .val (.int k), .val (.ref b3), .unset, .unset, .unset, .unset] (hb hby at_88) rfl rfl rfl ?_
      refine own_iloadN X12 hx (hb hby at_90) rfl rfl ?_
      refine own_iconst X12 hx (1 : Int32) (hb hby at_91) (by decide) rfl ?_
      refine own_iand X12 hx (hb hby at_92) rfl ?_
      refine own_if_eq X12 hx (hb hby at_93) (by decide) rfl rfl (fun hc93_15 => ?_) (fun hc93_15 => ?_)
      · refine own_new X12 hx hZ hown (hw _ (List.mem_of_getElem? (i := 2) rfl)) (hw _ (List.mem_of_getElem? (i := 3) rfl)) (hw _ (List.mem_of_getElem? (i := 4) rfl)) e12 (hb hby at_117) (by decide) (by decide) rfl ?_
        intro T16 h16 b16 X16 e16 g16 E16 A16 D16
        have f17 := ((((O0.ext E3).wr W6 g_b3).wr W9 g_b3).wr W12 g_b3)
        have g_b16 : n0 ≤ b16 := Nat.le_trans (own_oz f17) (Nat.le_of_eq g16.symm)
        have sz_b16 : h0.size ≤ b16 := Nat.le_trans K14.1 (Nat.le_of_eq g16.symm)
        have HH18 := HH13.ext E16
        have K19 := K14.ext E16
        have Y_b16 := own_sfN g16 E16 HH13
        have Fb16_coder : Fld Z h16 b16 "java/lang/String" "coder" "B" (.int (0 : Int32)) := D16 (Or.inr (hw _ (List.mem_of_getElem? (i := 28) rfl))) (ty := .byte) (by decide)
        have Fb16_value : Fld Z h16 b16 "java/lang/String" "value" "[B" .null := D16 (Or.inr (hw _ (List.mem_of_getElem? (i := 30) rfl))) (ty := (.array .byte)) (by decide)
        refine own_dup X16 hx (hb hby at_120) rfl rfl ?_
        refine own_aload X16 hx (hb hby at_121) rfl rfl rfl ?_
        have hp_b16 : ∀ c ∈ ([(78 : Int32), (97 : Int32), (78 : Int32)] : List Int32), ¬ c < 0 ∧ ¬ (255 : Int32) < c := (own_c2 (by decide) (own_c2 (by decide) (own_c2 (by decide) own_c0)))
        have f20 := (V12.ext E16)
        have f21 := (f17.ext E16)
        refine own_specialB X16 hx hZ (y := (⟨"java/lang/String", "<init>", "([C)V"⟩ : MethodName)) rfl hown (hw _ (List.mem_of_getElem? (i := 5) rfl)) (hw _ (List.mem_of_getElem? (i := 6) rfl)) (hw _ (List.mem_of_getElem? (i := 7) rfl)) (by decide) e16 (W := 1) (ce := 1) (sl := 3) (by decide) (by decide) [(.ref b3)] [(.ref b16)] (by rw [hml]; rfl) (a := b16) (StrChars.Road.QV Z b16 (3 : Int32) (([(78 : Int32), (97 : Int32), (78 : Int32)] : List Int32).map (fun c => c.toInt8.toInt32)) h16 n0) (StrChars.Road.backV (W := 1) hZ (own_hws hw) (kI := 4) (hw _ (List.mem_of_getElem? (i := 3) rfl)) (cs := ([(78 : Int32), (97 : Int32), (78 : Int32)] : List Int32)) (bs := (([(78 : Int32), (97 : Int32), (78 : Int32)] : List Int32).map (fun c => c.toInt8.toInt32))) (n := 3) g_b16 (own_oz f21) A16 Fb16_value Fb16_coder f20 (SC.ext f21.2) hzc rfl rfl (by decide) (by decide) hp_b16 rfl (by decide) (by decide)) own_pd1 rfl rfl rfl (hb hby at_123) rfl ?_
        intro v22 T22 L22 X22 hQ22
        obtain ⟨rfl, Nq22, Kq22, Es22, Cs22, t22, kb22, gt22, st22, nt22, Vs22, Ks22⟩ := hQ22
        have N22 := Fr.app N12 Nq22
        have HH23 := HH18.keep Kq22 (sfS Y_b16 sf0)
        have K24 := K19.trans Kq22 (allS (Or.inr sz_b16) all0)
        have co22 : StrChars.Road.CodA ([(78 : Int32), (97 : Int32), (78 : Int32)] : List Int32) 0 (3 : Int32) (((([(78 : Int32), (97 : Int32), (78 : Int32)] : List Int32).map (fun c => c.toInt8.toInt32))).map Value.int) := StrChars.Road.codOf (n := 3) rfl (fun c hc => (hp_b16 c hc).2)
        have hb22 := own_up hp_b16
        show own_Ends p e below _ (T22.setTop (mkF m 126 #[.val (.int p1), .val (.int p2), .val (.int p3), .val (.int p4), .val (.int k), .val (.ref b3), .unset, .unset, .unset, .unset] [(.ref b16)]))
        refine own_astore X22 hx #[.val (.int p1), .val (.int p2), .val (.int p3), .val (.int p4), .val (.int k), .val (.ref b3), .val (.ref b16), .unset, .unset, .unset] (hb hby at_126) rfl rfl rfl ?_
        refine own_aload X22 hx (hb hby at_128) rfl rfl rfl ?_
        have f25 := (f21.keep Kq22 (allS g_b16 all0))
        refine own_staticH X22 hx hZ (y := (⟨"com/example/pincio/pincio/core/CanonicalLiterals", "isSpecial", "(Ljava/lang/String;)Z"⟩ : MethodName)) hown (hw _ (List.mem_of_getElem? (i := 31) rfl)) (hw _ (List.mem_of_getElem? (i := 32) rfl)) (hw _ (List.mem_of_getElem? (i := 33) rfl)) (hw _ (List.mem_of_getElem? (i := 34) rfl)) (by decide) HH23 hEL rfl (by decide) (W := 0) (by decide) (by decide) (by decide) [(.ref b16)] [] (by rw [hml]; rfl) (own_isSpecial l Z a0 hw b16 ([(78 : Int32), (97 : Int32), (78 : Int32)] : List Int32) zc T22.heap n0 hEL f25 SC hzc ⟨_, _, _, _, _, Es22, Vs22, Cs22, Ks22, co22, hb22, (Nat.le_of_ble_eq_true rfl)⟩) own_pd2 rfl rfl rfl (hb hby at_130) rfl ?_
        intro v26 T26 L26 X26 hQ26 hZ hown HH26 A26
        obtain ⟨rfl, Nq26, Kq26⟩ := hQ26
        have N26 := Fr.app N22 Nq26
        have K27 := K24.trans Kq26 all0
        show own_Ends p e below _ (T26.setTop (mkF m 133 #[.val (.int p1), .val (.int p2), .val (.int p3), .val (.int p4), .val (.int k), .val (.ref b3), .val (.ref b16), .unset, .unset, .unset] [(.int (own_isp ([(78 : Int32), (97 : Int32), (78 : Int32)] : List Int32)))]))
        rw [show own_isp ([(78 : Int32), (97 : Int32), (78 : Int32)] : List Int32) = 1 from by decide]
        refine own_ifT X26 hx (hb hby at_133) (by decide) rfl (by decide) ?_
        refine own_aload X26 hx (hb hby at_138) rfl rfl rfl ?_
        have f28 := (f25.keep Kq26 all0)
        have f29 := (Es22.keep Kq26)
        have f30 := (Vs22.keep Kq26 nin0)
        have f31 := (Cs22.keep Kq26 nin0)
        have f32 := (Ks22.keep Kq26 nin0)
        refine own_staticH X26 hx hZ (y := (⟨"com/example/pincio/pincio/core/CanonicalLiterals", "special", "(Ljava/lang/String;)D"⟩ : MethodName)) hown (hw _ (List.mem_of_getElem? (i := 50) rfl)) (hw _ (List.mem_of_getElem? (i := 51) rfl)) (hw _ (List.mem_of_getElem? (i := 33) rfl)) (hw _ (List.mem_of_getElem? (i := 52) rfl)) (by decide) HH26 hEL rfl (by decide) (W := 0) (by decide) (by decide) (by decide) [(.ref b16)] [] (by rw [hml]; rfl) (own_special_ l Z a0 hw b16 ([(78 : Int32), (97 : Int32), (78 : Int32)] : List Int32) zc T26.heap n0 hEL f28 SC hzc ⟨_, _, _, _, _, f29, f30, f31, f32, co22, hb22, (Nat.le_of_ble_eq_true rfl)⟩) own_pd3 rfl rfl rfl (hb hby at_140) rfl ?_
        intro v33 T33 L33 X33 hQ33 hZ hown HH33 A33
        obtain ⟨rfl, Nq33, Kq33⟩ := hQ33
        have N33 := Fr.app N26 Nq33
        have K34 := K27.trans Kq33 all0
        rw [show own_spv ([(78 : Int32), (97 : Int32), (78 : Int32)] : List Int32) = (9221120237041090560 : UInt64) from by decide]
        show own_Ends p e below _ (T33.setTop (mkF m 143 #[.val (.int p1), .val (.int p2), .val (.int p3), .val (.int p4), .val (.int k), .val (.ref b3), .val (.ref b16), .unset, .unset, .unset] [(.double (9221120237041090560 : UInt64))]))
        refine own_dstore X33 hx #[.val (.int p1), .val (.int p2), .val (.int p3), .val (.int p4), .val (.int k), .val (.ref b3), .val (.ref b16), .val (.double (9221120237041090560 : UInt64)), .second, .unset] (hb hby at_143) rfl rfl ?_
        refine own_aload X33 hx (hb hby at_145) rfl rfl rfl ?_
        refine own_iconst X33 hx (0 : Int32) (hb hby at_147) (by decide) rfl ?_
        have f35 := (f29.keep Kq33)
        have f36 := (f30.keep Kq33 nin0)
        have f37 := (f31.keep Kq33 nin0)
        have f38 := (f32.keep Kq33 nin0)
        have f39 := (f28.keep Kq33 all0)
        refine own_virtualB X33 hx hZ (y := (⟨"java/lang/String", "charAt", "(I)C"⟩ : MethodName)) (z := (⟨"java/lang/String", "charAt", "(I)C"⟩ : MethodName)) hown (hw _ (List.mem_of_getElem? (i := 54) rfl)) (hw _ (List.mem_of_getElem? (i := 55) rfl)) (notFace_of_selects (args := #[]) (mvT hZ (hw _ (List.mem_of_getElem? (i := 57) rfl)))) (hw _ (List.mem_of_getElem? (i := 57) rfl)) (hw _ (List.mem_of_getElem? (i := 56) rfl)) (by decide) rfl (W := 0) (ce := 0) (sl := 0) (by decide) (by decide) [(.int (0 : Int32))] [] (by rw [hml]; rfl) f35 (fun v h' L => v = some (.int (([(78 : Int32), (97 : Int32), (78 : Int32)] : List Int32).getD 0 0)) ∧ L = [] ∧ h' = T33.heap) (StrChars.Road.chN (W := 0) hZ (own_hch hw) (kI := 4) (hw _ (List.mem_of_getElem? (i := 3) rfl)) f35 f36 f37 f38 co22 hb22 (SC.ext f39.2) hzc (SF.ext f39.2) rfm (Nat.le_of_ble_eq_true rfl) (i := 0) (Nat.le_of_ble_eq_true rfl) (j := 0) rfl (by decide) (by decide)) own_pd4 rfl rfl rfl (hb hby at_148) rfl ?_
        intro v40 T40 L40 X40 hQ40
        obtain ⟨rfl, rfl, hh40⟩ := hQ40
        have N40 := Fr.app N33 (Fr.nil n0)
        show own_Ends p e below _ (T40.setTop (mkF m 151 #[.val (.int p1), .val (.int p2), .val (.int p3), .val (.int p4), .val (.int k), .val (.ref b3), .val (.ref b16), .val (.double (9221120237041090560 : UInt64)), .second, .unset] [(.int (78 : Int32))]))
        refine own_istore X40 hx #[.val (.int p1), .val (.int p2), .val (.int p3), .val (.int p4), .val (.int k), .val (.ref b3), .val (.ref b16), .val (.double (9221120237041090560 : UInt64)), .second, .val (.int (78 : Int32))] (hb hby at_151) rfl rfl ?_
        refine own_iload X40 hx (hb hby at_153) rfl rfl ?_
        refine own_bipush X40 hx (73 : Int32) (hb hby at_155) (by decide) rfl ?_
        refine own_icmpT X40 hx (hb hby at_157) (by decide) rfl (by decide) ?_
        refine own_iload X40 hx (hb hby at_175) rfl rfl ?_
        refine own_bipush X40 hx (45 : Int32) (hb hby at_177) (by decide) rfl ?_
        refine own_icmpT X40 hx (hb hby at_179) (by decide) rfl (by decide) ?_
        refine own_dload X40 hx (hb hby at_197) rfl rfl ?_
        refine own_dload X40 hx (hb hby at_199) rfl rfl ?_
        refine own_dcmp X40 hx (-1 : Int32) (hb hby at_201) (by decide +kernel) rfl ?_
        refine own_ifF X40 hx (hb hby at_202) rfl (by decide) ?_
        refine own_iconst X40 hx (1 : Int32) (hb hby at_205) (by decide) rfl ?_
        refine own_goto X40 hx (hb hby at_206) (by decide) rfl ?_
        exact own_retNH X40 hx hZ hh40 HH33 hEL hlocks hret (by simp) (hb hby at_210) (by decide) (by decide) (by decide) ⟨rfl, N40⟩
      · refine own_iloadN X12 hx (hb hby at_96) rfl rfl ?_
        refine own_ldcInt X12 hx hZ hown (hw _ (List.mem_of_getElem? (i := 0) rfl)) (hb hby at_97) rfl ?_
        refine own_iand X12 hx (hb hby at_99) rfl ?_
        refine own_aload X12 hx (hb hby at_100) rfl rfl rfl ?_
        refine own_arraylength X12 hx hZ e12 V12 (hb hby at_102) rfl ?_
        refine own_irem X12 hx (hb hby at_103) (by decide) rfl ?_
        have hi := own_rem3 p2
        generalize ((p2 &&& (2147483647 : Int32)) % (3 : Int32)) = i at hi ⊢
        rcases hi with rfl | rfl | rfl
        · refine own_istore X12 hx #[.val (.int p1), .val (.int p2), .val (.int p3), .val (.int p4), .val (.int k), .val (.ref b3), .val (.int (0 : Int32)), .unset, .unset, .unset] (hb hby at_104) rfl rfl ?_
          refine own_aload X12 hx (hb hby at_106) rfl rfl rfl ?_
          refine own_iload X12 hx (hb hby at_108) rfl rfl ?_
          refine own_iloadN X12 hx (hb hby at_110) rfl rfl ?_
          refine own_sipush X12 hx (255 : Int32) (hb hby at_111) (by decide) rfl ?_
          refine own_iand X12 hx (hb hby at_114) rfl ?_
          refine own_i2c X12 hx (hb hby at_115) rfl ?_
          have hc41 := own_ch p3
          generalize ((p3 &&& (255 : Int32)).toUInt32.toUInt16.toUInt32.toInt32) = c41 at hc41 ⊢
          refine own_stC X12 hx hZ e12 V12 ⟨by decide, by decide⟩ 0 rfl (Nat.le_of_ble_eq_true rfl) (own_narC hc41) N12 g_b3 (hb hby at_116) rfl ?_
          intro T42 h42 X42 e42 W42 N42 V42
          have HH43 := HH13.wr W42 (Safe.arv hZ.alike V12 (by decide))
          have K44 := K14.wr W42 (Or.inr sz_b3)
          refine own_new X42 hx hZ hown (hw _ (List.mem_of_getElem? (i := 2) rfl)) (hw _ (List.mem_of_getElem? (i := 3) rfl)) (hw _ (List.mem_of_getElem? (i := 4) rfl)) e42 (hb hby at_117) (by decide) (by decide) rfl ?_
          intro T45 h45 b45 X45 e45 g45 E45 A45 D45
          have f46 := (((((O0.ext E3).wr W6 g_b3).wr W9 g_b3).wr W12 g_b3).wr W42 g_b3)
          have g_b45 : n0 ≤ b45 := Nat.le_trans (own_oz f46) (Nat.le_of_eq g45.symm)
          have sz_b45 : h0.size ≤ b45 := Nat.le_trans K44.1 (Nat.le_of_eq g45.symm)
          have HH47 := HH43.ext E45
          have K48 := K44.ext E45
          have Y_b45 := own_sfN g45 E45 HH43
          have Fb45_coder : Fld Z h45 b45 "java/lang/String" "coder" "B" (.int (0 : Int32)) := D45 (Or.inr (hw _ (List.mem_of_getElem? (i := 28) rfl))) (ty := .byte) (by decide)
          have Fb45_value : Fld Z h45 b45 "java/lang/String" "value" "[B" .null := D45 (Or.inr (hw _ (List.mem_of_getElem? (i := 30) rfl))) (ty := (.array .byte)) (by decide)
          refine own_dup X45 hx (hb hby at_120) rfl rfl ?_
          refine own_aload X45 hx (hb hby at_121) rfl rfl rfl ?_
          have hp_b45 : ∀ c ∈ ([c41, (97 : Int32), (78 : Int32)] : List Int32), ¬ c < 0 ∧ ¬ (255 : Int32) < c := (own_c2 hc41 (own_c2 (by decide) (own_c2 (by decide) own_c0)))
          have f49 := (V42.ext E45)
          have f50 := (f46.ext E45)
          refine own_specialB X45 hx hZ (y := (⟨"java/lang/String", "<init>", "([C)V"⟩ : MethodName)) rfl hown (hw _ (List.mem_of_getElem? (i := 5) rfl)) (hw _ (List.mem_of_getElem? (i := 6) rfl)) (hw _ (List.mem_of_getElem? (i := 7) rfl)) (by decide) e45 (W := 1) (ce := 1) (sl := 3) (by decide) (by decide) [(.ref b3)] [(.ref b45)] (by rw [hml]; rfl) (a := b45) (StrChars.Road.QV Z b45 (3 : Int32) (([c41, (97 : Int32), (78 : Int32)] : List Int32).map (fun c => c.toInt8.toInt32)) h45 n0) (StrChars.Road.backV (W := 1) hZ (own_hws hw) (kI := 4) (hw _ (List.mem_of_getElem? (i := 3) rfl)) (cs := ([c41, (97 : Int32), (78 : Int32)] : List Int32)) (bs := (([c41, (97 : Int32), (78 : Int32)] : List Int32).map (fun c => c.toInt8.toInt32))) (n := 3) g_b45 (own_oz f50) A45 Fb45_value Fb45_coder f49 (SC.ext f50.2) hzc rfl rfl (by decide) (by decide) hp_b45 rfl (by decide) (by decide)) own_pd1 rfl rfl rfl (hb hby at_123) rfl ?_
          intro v51 T51 L51 X51 hQ51
          obtain ⟨rfl, Nq51, Kq51, Es51, Cs51, t51, kb51, gt51, st51, nt51, Vs51, Ks51⟩ := hQ51
          have N51 := Fr.app N42 Nq51
          have HH52 := HH47.keep Kq51 (sfS Y_b45 sf0)
          have K53 := K48.trans Kq51 (allS (Or.inr sz_b45) all0)
          have co51 : StrChars.Road.CodA ([c41, (97 : Int32), (78 : Int32)] : List Int32) 0 (3 : Int32) (((([c41, (97 : Int32), (78 : Int32)] : List Int32).map (fun c => c.toInt8.toInt32))).map Value.int) := StrChars.Road.codOf (n := 3) rfl (fun c hc => (hp_b45 c hc).2)
          have hb51 := own_up hp_b45
          show own_Ends p e below _ (T51.setTop (mkF m 126 #[.val (.int p1), .val (.int p2), .val (.int p3), .val (.int p4), .val (.int k), .val (.ref b3), .val (.int (0 : Int32)), .unset, .unset, .unset] [(.ref b45)]))
          refine own_astore X51 hx #[.val (.int p1), .val (.int p2), .val (.int p3), .val (.int p4), .val (.int k), .val (.ref b3), .val (.ref b45), .unset, .unset, .unset] (hb hby at_126) rfl rfl rfl ?_
          refine own_aload X51 hx (hb hby at_128) rfl rfl rfl ?_
          have f54 := (f50.keep Kq51 (allS g_b45 all0))
          refine own_staticH X51 hx hZ (y := (⟨"com/example/pincio/pincio/core/CanonicalLiterals", "isSpecial", "(Ljava/lang/String;)Z"⟩ : MethodName)) hown (hw _ (List.mem_of_getElem? (i := 31) rfl)) (hw _ (List.mem_of_getElem? (i := 32) rfl)) (hw _ (List.mem_of_getElem? (i := 33) rfl)) (hw _ (List.mem_of_getElem? (i := 34) rfl)) (by decide) HH52 hEL rfl (by decide) (W := 0) (by decide) (by decide) (by decide) [(.ref b45)] [] (by rw [hml]; rfl) (own_isSpecial l Z a0 hw b45 ([c41, (97 : Int32), (78 : Int32)] : List Int32) zc T51.heap n0 hEL f54 SC hzc ⟨_, _, _, _, _, Es51, Vs51, Cs51, Ks51, co51, hb51, (Nat.le_of_ble_eq_true rfl)⟩) own_pd2 rfl rfl rfl (hb hby at_130) rfl ?_
          intro v55 T55 L55 X55 hQ55 hZ hown HH55 A55
          obtain ⟨rfl, Nq55, Kq55⟩ := hQ55
          have N55 := Fr.app N51 Nq55
          have K56 := K53.trans Kq55 all0
          show own_Ends p e below _ (T55.setTop (mkF m 133 #[.val (.int p1), .val (.int p2), .val (.int p3), .val (.int p4), .val (.int k), .val (.ref b3), .val (.ref b45), .unset, .unset, .unset] [(.int (own_isp ([c41, (97 : Int32), (78 : Int32)] : List Int32)))]))
          by_cases hq57 : c41 = (78 : Int32)
          · rw [show own_isp ([c41, (97 : Int32), (78 : Int32)] : List Int32) = 1 from by subst hq57; decide]
            refine own_ifT X55 hx (hb hby at_133) (by decide) rfl (by decide) ?_
            refine own_aload X55 hx (hb hby at_138) rfl rfl rfl ?_
            have f58 := (f54.keep Kq55 all0)
            have f59 := (Es51.keep Kq55)
            have f60 := (Vs51.keep Kq55 nin0)
            have f61 := (Cs51.keep Kq55 nin0)
            have f62 := (Ks51.keep Kq55 nin0)
            refine own_staticH X55 hx hZ (y := (⟨"com/example/pincio/pincio/core/CanonicalLiterals", "special", "(Ljava/lang/String;)D"⟩ : MethodName)) hown (hw _ (List.mem_of_getElem? (i := 50) rfl)) (hw _ (List.mem_of_getElem? (i := 51) rfl)) (hw _ (List.mem_of_getElem? (i := 33) rfl)) (hw _ (List.mem_of_getElem? (i := 52) rfl)) (by decide) HH55 hEL rfl (by decide) (W := 0) (by decide) (by decide) (by decide) [(.ref b45)] [] (by rw [hml]; rfl) (own_special_ l Z a0 hw b45 ([c41, (97 : Int32), (78 : Int32)] : List Int32) zc T55.heap n0 hEL f58 SC hzc ⟨_, _, _, _, _, f59, f60, f61, f62, co51, hb51, (Nat.le_of_ble_eq_true rfl)⟩) own_pd3 rfl rfl rfl (hb hby at_140) rfl ?_
            intro v63 T63 L63 X63 hQ63 hZ hown HH63 A63
            obtain ⟨rfl, Nq63, Kq63⟩ := hQ63
            have N63 := Fr.app N55 Nq63
            have K64 := K56.trans Kq63 all0
            rw [show own_spv ([c41, (97 : Int32), (78 : Int32)] : List Int32) = (9221120237041090560 : UInt64) from by subst hq57; decide]
            show own_Ends p e below _ (T63.setTop (mkF m 143 #[.val (.int p1), .val (.int p2), .val (.int p3), .val (.int p4), .val (.int k), .val (.ref b3), .val (.ref b45), .unset, .unset, .unset] [(.double (9221120237041090560 : UInt64))]))
            refine own_dstore X63 hx #[.val (.int p1), .val (.int p2), .val (.int p3), .val (.int p4), .val (.int k), .val (.ref b3), .val (.ref b45), .val (.double (9221120237041090560 : UInt64)), .second, .unset] (hb hby at_143) rfl rfl ?_
            refine own_aload X63 hx (hb hby at_145) rfl rfl rfl ?_
            refine own_iconst X63 hx (0 : Int32) (hb hby at_147) (by decide) rfl ?_
            have f65 := (f59.keep Kq63)
            have f66 := (f60.keep Kq63 nin0)
            have f67 := (f61.keep Kq63 nin0)
            have f68 := (f62.keep Kq63 nin0)
            have f69 := (f58.keep Kq63 all0)
            refine own_virtualB X63 hx hZ (y := (⟨"java/lang/String", "charAt", "(I)C"⟩ : MethodName)) (z := (⟨"java/lang/String", "charAt", "(I)C"⟩ : MethodName)) hown (hw _ (List.mem_of_getElem? (i := 54) rfl)) (hw _ (List.mem_of_getElem? (i := 55) rfl)) (notFace_of_selects (args := #[]) (mvT hZ (hw _ (List.mem_of_getElem? (i := 57) rfl)))) (hw _ (List.mem_of_getElem? (i := 57) rfl)) (hw _ (List.mem_of_getElem? (i := 56) rfl)) (by decide) rfl (W := 0) (ce := 0) (sl := 0) (by decide) (by decide) [(.int (0 : Int32))] [] (by rw [hml]; rfl) f65 (fun v h' L => v = some (.int (([c41, (97 : Int32), (78 : Int32)] : List Int32).getD 0 0)) ∧ L = [] ∧ h' = T63.heap) (StrChars.Road.chN (W := 0) hZ (own_hch hw) (kI := 4) (hw _ (List.mem_of_getElem? (i := 3) rfl)) f65 f66 f67 f68 co51 hb51 (SC.ext f69.2) hzc (SF.ext f69.2) rfm (Nat.le_of_ble_eq_true rfl) (i := 0) (Nat.le_of_ble_eq_true rfl) (j := 0) rfl (by decide) (by decide)) own_pd4 rfl rfl rfl (hb hby at_148) rfl ?_
            intro v70 T70 L70 X70 hQ70
            obtain ⟨rfl, rfl, hh70⟩ := hQ70
            have N70 := Fr.app N63 (Fr.nil n0)
            show own_Ends p e below _ (T70.setTop (mkF m 151 #[.val (.int p1), .val (.int p2), .val (.int p3), .val (.int p4), .val (.int k), .val (.ref b3), .val (.ref b45), .val (.double (9221120237041090560 : UInt64)), .second, .unset] [(.int c41)]))
            refine own_istore X70 hx #[.val (.int p1), .val (.int p2), .val (.int p3), .val (.int p4), .val (.int k), .val (.ref b3), .val (.ref b45), .val (.double (9221120237041090560 : UInt64)), .second, .val (.int c41)] (hb hby at_151) rfl rfl ?_
            refine own_iload X70 hx (hb hby at_153) rfl rfl ?_
            refine own_bipush X70 hx (73 : Int32) (hb hby at_155) (by decide) rfl ?_
            refine own_icmpT X70 hx (hb hby at_157) (by decide) rfl (by rw [hq57]; decide) ?_
            refine own_iload X70 hx (hb hby at_175) rfl rfl ?_
            refine own_bipush X70 hx (45 : Int32) (hb hby at_177) (by decide) rfl ?_
            refine own_icmpT X70 hx (hb hby at_179) (by decide) rfl (by rw [hq57]; decide) ?_
            refine own_dload X70 hx (hb hby at_197) rfl rfl ?_
            refine own_dload X70 hx (hb hby at_199) rfl rfl ?_
            refine own_dcmp X70 hx (-1 : Int32) (hb hby at_201) (by decide +kernel) rfl ?_
            refine own_ifF X70 hx (hb hby at_202) rfl (by decide) ?_
            refine own_iconst X70 hx (1 : Int32) (hb hby at_205) (by decide) rfl ?_
            refine own_goto X70 hx (hb hby at_206) (by decide) rfl ?_
            exact own_retNH X70 hx hZ hh70 HH63 hEL hlocks hret (by simp) (hb hby at_210) (by decide) (by decide) (by decide) ⟨rfl, N70⟩
          · rw [show own_isp ([c41, (97 : Int32), (78 : Int32)] : List Int32) = 0 from by simp [own_isp, hq57]]
            refine own_ifF X55 hx (hb hby at_133) rfl (by decide) ?_
            refine own_iconst X55 hx (1 : Int32) (hb hby at_136) (by decide) rfl ?_
            exact own_retNH X55 hx hZ rfl HH55 hEL hlocks hret (by simp) (hb hby at_137) (by decide) (by decide) (by decide) ⟨rfl, N55⟩
        · refine own_istore X12 hx #[.val (.int p1), .val (.int p2), .val (.int p3), .val (.int p4), .val (.int k), .val (.ref b3), .val (.int (1 : Int32)), .unset, .unset, .unset] (hb hby at_104) rfl rfl ?_
          refine own_aload X12 hx (hb hby at_106) rfl rfl rfl ?_
          refine own_iload X12 hx (hb hby at_108) rfl rfl ?_
          refine own_iloadN X12 hx (hb hby at_110) rfl rfl ?_
          refine own_sipush X12 hx (255 : Int32) (hb hby at_111) (by decide) rfl ?_
          refine own_iand X12 hx (hb hby at_114) rfl ?_
          refine own_i2c X12 hx (hb hby at_115) rfl ?_
          have hc71 := own_ch p3
          generalize ((p3 &&& (255 : Int32)).toUInt32.toUInt16.toUInt32.toInt32) = c71 at hc71 ⊢
          refine own_stC X12 hx hZ e12 V12 ⟨by decide, by decide⟩ 1 rfl (Nat.le_of_ble_eq_true rfl) (own_narC hc71) N12 g_b3 (hb hby at_116) rfl ?_
          intro T72 h72 X72 e72 W72 N72 V72
          have HH73 := HH13.wr W72 (Safe.arv hZ.alike V12 (by decide))
          have K74 := K14.wr W72 (Or.inr sz_b3)
          refine own_new X72 hx hZ hown (hw _ (List.mem_of_getElem? (i := 2) rfl)) (hw _ (List.mem_of_getElem? (i := 3) rfl)) (hw _ (List.mem_of_getElem? (i := 4) rfl)) e72 (hb hby at_117) (by decide) (by decide) rfl ?_
          intro T75 h75 b75 X75 e75 g75 E75 A75 D75
          have f76 := (((((O0.ext E3).wr W6 g_b3).wr W9 g_b3).wr W12 g_b3).wr W72 g_b3)
          have g_b75 : n0 ≤ b75 := Nat.le_trans (own_oz f76) (Nat.le_of_eq g75.symm)
          have sz_b75 : h0.size ≤ b75 := Nat.le_trans K74.1 (Nat.le_of_eq g75.symm)
          have HH77 := HH73.ext E75
          have K78 := K74.ext E75
          have Y_b75 := own_sfN g75 E75 HH73
          have Fb75_coder : Fld Z h75 b75 "java/lang/String" "coder" "B" (.int (0 : Int32)) := D75 (Or.inr (hw _ (List.mem_of_getElem? (i := 28) rfl))) (ty := .byte) (by decide)
          have Fb75_value : Fld Z h75 b75 "java/lang/String" "value" "[B" .null := D75 (Or.inr (hw _ (List.mem_of_getElem? (i := 30) rfl))) (ty := (.array .byte)) (by decide)
          refine own_dup X75 hx (hb hby at_120) rfl rfl ?_
          refine own_aload X75 hx (hb hby at_121) rfl rfl rfl ?_
          have hp_b75 : ∀ c ∈ ([(78 : Int32), c71, (78 : Int32)] : List Int32), ¬ c < 0 ∧ ¬ (255 : Int32) < c := (own_c2 (by decide) (own_c2 hc71 (own_c2 (by decide) own_c0)))
          have f79 := (V72.ext E75)
          have f80 := (f76.ext E75)
          refine own_specialB X75 hx hZ (y := (⟨"java/lang/String", "<init>", "([C)V"⟩ : MethodName)) rfl hown (hw _ (List.mem_of_getElem? (i := 5) rfl)) (hw _ (List.mem_of_getElem? (i := 6) rfl)) (hw _ (List.mem_of_getElem? (i := 7) rfl)) (by decide) e75 (W := 1) (ce := 1) (sl := 3) (by decide) (by decide) [(.ref b3)] [(.ref b75)] (by rw [hml]; rfl) (a := b75) (StrChars.Road.QV Z b75 (3 : Int32) (([(78 : Int32), c71, (78 : Int32)] : List Int32).map (fun c => c.toInt8.toInt32)) h75 n0) (StrChars.Road.backV (W := 1) hZ (own_hws hw) (kI := 4) (hw _ (List.mem_of_getElem? (i := 3) rfl)) (cs := ([(78 : Int32), c71, (78 : Int32)] : List Int32)) (bs := (([(78 : Int32), c71, (78 : Int32)] : List Int32).map (fun c => c.toInt8.toInt32))) (n := 3) g_b75 (own_oz f80) A75 Fb75_value Fb75_coder f79 (SC.ext f80.2) hzc rfl rfl (by decide) (by decide) hp_b75 rfl (by decide) (by decide)) own_pd1 rfl rfl rfl (hb hby at_123) rfl ?_
          intro v81 T81 L81 X81 hQ81
          obtain ⟨rfl, Nq81, Kq81, Es81, Cs81, t81, kb81, gt81, st81, nt81, Vs81, Ks81⟩ := hQ81
          have N81 := Fr.app N72 Nq81
          have HH82 := HH77.keep Kq81 (sfS Y_b75 sf0)
          have K83 := K78.trans Kq81 (allS (Or.inr sz_b75) all0)
          have co81 : StrChars.Road.CodA ([(78 : Int32), c71, (78 : Int32)] : List Int32) 0 (3 : Int32) (((([(78 : Int32), c71, (78 : Int32)] : List Int32).map (fun c => c.toInt8.toInt32))).map Value.int) := StrChars.Road.codOf (n := 3) rfl (fun c hc => (hp_b75 c hc).2)
          have hb81 := own_up hp_b75
          show own_Ends p e below _ (T81.setTop (mkF m 126 #[.val (.int p1), .val (.int p2), .val (.int p3), .val (.int p4), .val (.int k), .val (.ref b3), .val (.int (1 : Int32)), .unset, .unset, .unset] [(.ref b75)]))
          refine own_astore X81 hx #[.val (.int p1), .val (.int p2), .val (.int p3), .val (.int p4), .val (.int k), .val (.ref b3), .val (.ref b75), .unset, .unset, .unset] (hb hby at_126) rfl rfl rfl ?_
          refine own_aload X81 hx (hb hby at_128) rfl rfl rfl ?_
          have f84 := (f80.keep Kq81 (allS g_b75 all0))
          refine own_staticH X81 hx hZ (y := (⟨"com/example/pincio/pincio/core/CanonicalLiterals", "isSpecial", "(Ljava/lang/String;)Z"⟩ : MethodName)) hown (hw _ (List.mem_of_getElem? (i := 31) rfl)) (hw _ (List.mem_of_getElem? (i := 32) rfl)) (hw _ (List.mem_of_getElem? (i := 33) rfl)) (hw _ (List.mem_of_getElem? (i := 34) rfl)) (by decide) HH82 hEL rfl (by decide) (W := 0) (by decide) (by decide) (by decide) [(.ref b75)] [] (by rw [hml]; rfl) (own_isSpecial l Z a0 hw b75 ([(78 : Int32), c71, (78 : Int32)] : List Int32) zc T81.heap n0 hEL f84 SC hzc ⟨_, _, _, _, _, Es81, Vs81, Cs81, Ks81, co81, hb81, (Nat.le_of_ble_eq_true rfl)⟩) own_pd2 rfl rfl rfl (hb hby at_130) rfl ?_
          intro v85 T85 L85 X85 hQ85 hZ hown HH85 A85
          obtain ⟨rfl, Nq85, Kq85⟩ := hQ85
          have N85 := Fr.app N81 Nq85
          have K86 := K83.trans Kq85 all0
          show own_Ends p e below _ (T85.setTop (mkF m 133 #[.val (.int p1), .val (.int p2), .val (.int p3), .val (.int p4), .val (.int k), .val (.ref b3), .val (.ref b75), .unset, .unset, .unset] [(.int (own_isp ([(78 : Int32), c71, (78 : Int32)] : List Int32)))]))
          by_cases hq87 : c71 = (97 : Int32)
          · rw [show own_isp ([(78 : Int32), c71, (78 : Int32)] : List Int32) = 1 from by subst hq87; decide]
            refine own_ifT X85 hx (hb hby at_133) (by decide) rfl (by decide) ?_
            refine own_aload X85 hx (hb hby at_138) rfl rfl rfl ?_
            have f88 := (f84.keep Kq85 all0)
            have f89 := (Es81.keep Kq85)
            have f90 := (Vs81.keep Kq85 nin0)
            have f91 := (Cs81.keep Kq85 nin0)
            have f92 := (Ks81.keep Kq85 nin0)
            refine own_staticH X85 hx hZ (y := (⟨"com/example/pincio/pincio/core/CanonicalLiterals", "special", "(Ljava/lang/String;)D"⟩ : MethodName)) hown (hw _ (List.mem_of_getElem? (i := 50) rfl)) (hw _ (List.mem_of_getElem? (i := 51) rfl)) (hw _ (List.mem_of_getElem? (i := 33) rfl)) (hw _ (List.mem_of_getElem? (i := 52) rfl)) (by decide) HH85 hEL rfl (by decide) (W := 0) (by decide) (by decide) (by decide) [(.ref b75)] [] (by rw [hml]; rfl) (own_special_ l Z a0 hw b75 ([(78 : Int32), c71, (78 : Int32)] : List Int32) zc T85.heap n0 hEL f88 SC hzc ⟨_, _, _, _, _, f89, f90, f91, f92, co81, hb81, (Nat.le_of_ble_eq_true rfl)⟩) own_pd3 rfl rfl rfl (hb hby at_140) rfl ?_
            intro v93 T93 L93 X93 hQ93 hZ hown HH93 A93
            obtain ⟨rfl, Nq93, Kq93⟩ := hQ93
            have N93 := Fr.app N85 Nq93
            have K94 := K86.trans Kq93 all0
            rw [show own_spv ([(78 : Int32), c71, (78 : Int32)] : List Int32) = (9221120237041090560 : UInt64) from by subst hq87; decide]
            show own_Ends p e below _ (T93.setTop (mkF m 143 #[.val (.int p1), .val (.int p2), .val (.int p3), .val (.int p4), .val (.int k), .val (.ref b3), .val (.ref b75), .unset, .unset, .unset] [(.double (9221120237041090560 : UInt64))]))
            refine own_dstore X93 hx #[.val (.int p1), .val (.int p2), .val (.int p3), .val (.int p4), .val (.int k), .val (.ref b3), .val (.ref b75), .val (.double (9221120237041090560 : UInt64)), .second, .unset] (hb hby at_143) rfl rfl ?_
            refine own_aload X93 hx (hb hby at_145) rfl rfl rfl ?_
            refine own_iconst X93 hx (0 : Int32) (hb hby at_147) (by decide) rfl ?_
            have f95 := (f89.keep Kq93)
            have f96 := (f90.keep Kq93 nin0)
            have f97 := (f91.keep Kq93 nin0)
            have f98 := (f92.keep Kq93 nin0)
            have f99 := (f88.keep Kq93 all0)
            refine own_virtualB X93 hx hZ (y := (⟨"java/lang/String", "charAt", "(I)C"⟩ : MethodName)) (z := (⟨"java/lang/String", "charAt", "(I)C"⟩ : MethodName)) hown (hw _ (List.mem_of_getElem? (i := 54) rfl)) (hw _ (List.mem_of_getElem? (i := 55) rfl)) (notFace_of_selects (args := #[]) (mvT hZ (hw _ (List.mem_of_getElem? (i := 57) rfl)))) (hw _ (List.mem_of_getElem? (i := 57) rfl)) (hw _ (List.mem_of_getElem? (i := 56) rfl)) (by decide) rfl (W := 0) (ce := 0) (sl := 0) (by decide) (by decide) [(.int (0 : Int32))] [] (by rw [hml]; rfl) f95 (fun v h' L => v = some (.int (([(78 : Int32), c71, (78 : Int32)] : List Int32).getD 0 0)) ∧ L = [] ∧ h' = T93.heap) (StrChars.Road.chN (W := 0) hZ (own_hch hw) (kI := 4) (hw _ (List.mem_of_getElem? (i := 3) rfl)) f95 f96 f97 f98 co81 hb81 (SC.ext f99.2) hzc (SF.ext f99.2) rfm (Nat.le_of_ble_eq_true rfl) (i := 0) (Nat.le_of_ble_eq_true rfl) (j := 0) rfl (by decide) (by decide)) own_pd4 rfl rfl rfl (hb hby at_148) rfl ?_
            intro v100 T100 L100 X100 hQ100
            obtain ⟨rfl, rfl, hh100⟩ := hQ100
            have N100 := Fr.app N93 (Fr.nil n0)
            show own_Ends p e below _ (T100.setTop (mkF m 151 #[.val (.int p1), .val (.int p2), .val (.int p3), .val (.int p4), .val (.int k), .val (.ref b3), .val (.ref b75), .val (.double (9221120237041090560 : UInt64)), .second, .unset] [(.int (78 : Int32))]))
            refine own_istore X100 hx #[.val (.int p1), .val (.int p2), .val (.int p3), .val (.int p4), .val (.int k), .val (.ref b3), .val (.ref b75), .val (.double (9221120237041090560 : UInt64)), .second, .val (.int (78 : Int32))] (hb hby at_151) rfl rfl ?_
            refine own_iload X100 hx (hb hby at_153) rfl rfl ?_
            refine own_bipush X100 hx (73 : Int32) (hb hby at_155) (by decide) rfl ?_
            refine own_icmpT X100 hx (hb hby at_157) (by decide) rfl (by decide) ?_
            refine own_iload X100 hx (hb hby at_175) rfl rfl ?_
            refine own_bipush X100 hx (45 : Int32) (hb hby at_177) (by decide) rfl ?_
            refine own_icmpT X100 hx (hb hby at_179) (by decide) rfl (by decide) ?_
            refine own_dload X100 hx (hb hby at_197) rfl rfl ?_
            refine own_dload X100 hx (hb hby at_199) rfl rfl ?_
            refine own_dcmp X100 hx (-1 : Int32) (hb hby at_201) (by decide +kernel) rfl ?_
            refine own_ifF X100 hx (hb hby at_202) rfl (by decide) ?_
            refine own_iconst X100 hx (1 : Int32) (hb hby at_205) (by decide) rfl ?_
            refine own_goto X100 hx (hb hby at_206) (by decide) rfl ?_
            exact own_retNH X100 hx hZ hh100 HH93 hEL hlocks hret (by simp) (hb hby at_210) (by decide) (by decide) (by decide) ⟨rfl, N100⟩
          · rw [show own_isp ([(78 : Int32), c71, (78 : Int32)] : List Int32) = 0 from by simp [own_isp, hq87]]
            refine own_ifF X85 hx (hb hby at_133) rfl (by decide) ?_
            refine own_iconst X85 hx (1 : Int32) (hb hby at_136) (by decide) rfl ?_
            exact own_retNH X85 hx hZ rfl HH85 hEL hlocks hret (by simp) (hb hby at_137) (by decide) (by decide) (by decide) ⟨rfl, N85⟩
        · refine own_istore X12 hx #[.val (.int p1), .val (.int p2), .val (.int p3), .val (.int p4), .val (.int k), .val (.ref b3), .val (.int (2 : Int32)), .unset, .unset, .unset] (hb hby at_104) rfl rfl ?_
          refine own_aload X12 hx (hb hby at_106) rfl rfl rfl ?_
          refine own_iload X12 hx (hb hby at_108) rfl rfl ?_
          refine own_iloadN X12 hx (hb hby at_110) rfl rfl ?_
          refine own_sipush X12 hx (255 : Int32) (hb hby at_111) (by decide) rfl ?_
          refine own_iand X12 hx (hb hby at_114) rfl ?_
          refine own_i2c X12 hx (hb hby at_115) rfl ?_
          have hc101 := own_ch p3
          generalize ((p3 &&& (255 : Int32)).toUInt32.toUInt16.toUInt32.toInt32) = c101 at hc101 ⊢
          refine own_stC X12 hx hZ e12 V12 ⟨by decide, by decide⟩ 2 rfl (Nat.le_of_ble_eq_true rfl) (own_narC hc101) N12 g_b3 (hb hby at_116) rfl ?_
          intro T102 h102 X102 e102 W102 N102 V102
          have HH103 := HH13.wr W102 (Safe.arv hZ.alike V12 (by decide))
          have K104 := K14.wr W102 (Or.inr sz_b3)
          refine own_new X102 hx hZ hown (hw _ (List.mem_of_getElem? (i := 2) rfl)) (hw _ (List.mem_of_getElem? (i := 3) rfl)) (hw _ (List.mem_of_getElem? (i := 4) rfl)) e102 (hb hby at_117) (by decide) (by decide) rfl ?_
          intro T105 h105 b105 X105 e105 g105 E105 A105 D105
          have f106 := (((((O0.ext E3).wr W6 g_b3).wr W9 g_b3).wr W12 g_b3).wr W102 g_b3)
          have g_b105 : n0 ≤ b105 := Nat.le_trans (own_oz f106) (Nat.le_of_eq g105.symm)
          have sz_b105 : h0.size ≤ b105 := Nat.le_trans K104.1 (Nat.le_of_eq g105.symm)
          have HH107 := HH103.ext E105
          have K108 := K104.ext E105
          have Y_b105 := own_sfN g105 E105 HH103
          have Fb105_coder : Fld Z h105 b105 "java/lang/String" "coder" "B" (.int (0 : Int32)) := D105 (Or.inr (hw _ (List.mem_of_getElem? (i := 28) rfl))) (ty := .byte) (by decide)
          have Fb105_value : Fld Z h105 b105 "java/lang/String" "value" "[B" .null := D105 (Or.inr (hw _ (List.mem_of_getElem? (i := 30) rfl))) (ty := (.array .byte)) (by decide)
          refine own_dup X105 hx (hb hby at_120) rfl rfl ?_
          refine own_aload X105 hx (hb hby at_121) rfl rfl rfl ?_
          have hp_b105 : ∀ c ∈ ([(78 : Int32), (97 : Int32), c101] : List Int32), ¬ c < 0 ∧ ¬ (255 : Int32) < c := (own_c2 (by decide) (own_c2 (by decide) (own_c2 hc101 own_c0)))
          have f109 := (V102.ext E105)
          have f110 := (f106.ext E105)
          refine own_specialB X105 hx hZ (y := (⟨"java/lang/String", "<init>", "([C)V"⟩ : MethodName)) rfl hown (hw _ (List.mem_of_getElem? (i := 5) rfl)) (hw _ (List.mem_of_getElem? (i := 6) rfl)) (hw _ (List.mem_of_getElem? (i := 7) rfl)) (by decide) e105 (W := 1) (ce := 1) (sl := 3) (by decide) (by decide) [(.ref b3)] [(.ref b105)] (by rw [hml]; rfl) (a := b105) (StrChars.Road.QV Z b105 (3 : Int32) (([(78 : Int32), (97 : Int32), c101] : List Int32).map (fun c => c.toInt8.toInt32)) h105 n0) (StrChars.Road.backV (W := 1) hZ (own_hws hw) (kI := 4) (hw _ (List.mem_of_getElem? (i := 3) rfl)) (cs := ([(78 : Int32), (97 : Int32), c101] : List Int32)) (bs := (([(78 : Int32), (97 : Int32), c101] : List Int32).map (fun c => c.toInt8.toInt32))) (n := 3) g_b105 (own_oz f110) A105 Fb105_value Fb105_coder f109 (SC.ext f110.2) hzc rfl rfl (by decide) (by decide) hp_b105 rfl (by decide) (by decide)) own_pd1 rfl rfl rfl (hb hby at_123) rfl ?_
          intro v111 T111 L111 X111 hQ111
          obtain ⟨rfl, Nq111, Kq111, Es111, Cs111, t111, kb111, gt111, st111, nt111, Vs111, Ks111⟩ := hQ111
          have N111 := Fr.app N102 Nq111
          have HH112 := HH107.keep Kq111 (sfS Y_b105 sf0)
          have K113 := K108.trans Kq111 (allS (Or.inr sz_b105) all0)
          have co111 : StrChars.Road.CodA ([(78 : Int32), (97 : Int32), c101] : List Int32) 0 (3 : Int32) (((([(78 : Int32), (97 : Int32), c101] : List Int32).map (fun c => c.toInt8.toInt32))).map Value.int) := StrChars.Road.codOf (n := 3) rfl (fun c hc => (hp_b105 c hc).2)
          have hb111 := own_up hp_b105
          show own_Ends p e below _ (T111.setTop (mkF m 126 #[.val (.int p1), .val (.int p2), .val (.int p3), .val (.int p4), .val (.int k), .val (.ref b3), .val (.int (2 : Int32)), .unset, .unset, .unset] [(.ref b105)]))
          refine own_astore X111 hx #[.val (.int p1), .val (.int p2), .val (.int p3), .val (.int p4), .val (.int k), .val (.ref b3), .val (.ref b105), .unset, .unset, .unset] (hb hby at_126) rfl rfl rfl ?_
          refine own_aload X111 hx (hb hby at_128) rfl rfl rfl ?_
          have f114 := (f110.keep Kq111 (allS g_b105 all0))
          refine own_staticH X111 hx hZ (y := (⟨"com/example/pincio/pincio/core/CanonicalLiterals", "isSpecial", "(Ljava/lang/String;)Z"⟩ : MethodName)) hown (hw _ (List.mem_of_getElem? (i := 31) rfl)) (hw _ (List.mem_of_getElem? (i := 32) rfl)) (hw _ (List.mem_of_getElem? (i := 33) rfl)) (hw _ (List.mem_of_getElem? (i := 34) rfl)) (by decide) HH112 hEL rfl (by decide) (W := 0) (by decide) (by decide) (by decide) [(.ref b105)] [] (by rw [hml]; rfl) (own_isSpecial l Z a0 hw b105 ([(78 : Int32), (97 : Int32), c101] : List Int32) zc T111.heap n0 hEL f114 SC hzc ⟨_, _, _, _, _, Es111, Vs111, Cs111, Ks111, co111, hb111, (Nat.le_of_ble_eq_true rfl)⟩) own_pd2 rfl rfl rfl (hb hby at_130) rfl ?_
          intro v115 T115 L115 X115 hQ115 hZ hown HH115 A115
          obtain ⟨rfl, Nq115, Kq115⟩ := hQ115
          have N115 := Fr.app N111 Nq115
          have K116 := K113.trans Kq115 all0
          show own_Ends p e below _ (T115.setTop (mkF m 133 #[.val (.int p1), .val (.int p2), .val (.int p3), .val (.int p4), .val (.int k), .val (.ref b3), .val (.ref b105), .unset, .unset, .unset] [(.int (own_isp ([(78 : Int32), (97 : Int32), c101] : List Int32)))]))
          by_cases hq117 : c101 = (78 : Int32)
          · rw [show own_isp ([(78 : Int32), (97 : Int32), c101] : List Int32) = 1 from by subst hq117; decide]
            refine own_ifT X115 hx (hb hby at_133) (by decide) rfl (by decide) ?_
            refine own_aload X115 hx (hb hby at_138) rfl rfl rfl ?_
            have f118 := (f114.keep Kq115 all0)
            have f119 := (Es111.keep Kq115)
            have f120 := (Vs111.keep Kq115 nin0)
            have f121 := (Cs111.keep Kq115 nin0)
            have f122 := (Ks111.keep Kq115 nin0)
            refine own_staticH X115 hx hZ (y := (⟨"com/example/pincio/pincio/core/CanonicalLiterals", "special", "(Ljava/lang/String;)D"⟩ : MethodName)) hown (hw _ (List.mem_of_getElem? (i := 50) rfl)) (hw _ (List.mem_of_getElem? (i := 51) rfl)) (hw _ (List.mem_of_getElem? (i := 33) rfl)) (hw _ (List.mem_of_getElem? (i := 52) rfl)) (by decide) HH115 hEL rfl (by decide) (W := 0) (by decide) (by decide) (by decide) [(.ref b105)] [] (by rw [hml]; rfl) (own_special_ l Z a0 hw b105 ([(78 : Int32), (97 : Int32), c101] : List Int32) zc T115.heap n0 hEL f118 SC hzc ⟨_, _, _, _, _, f119, f120, f121, f122, co111, hb111, (Nat.le_of_ble_eq_true rfl)⟩) own_pd3 rfl rfl rfl (hb hby at_140) rfl ?_
            intro v123 T123 L123 X123 hQ123 hZ hown HH123 A123
            obtain ⟨rfl, Nq123, Kq123⟩ := hQ123
            have N123 := Fr.app N115 Nq123
            have K124 := K116.trans Kq123 all0
            rw [show own_spv ([(78 : Int32), (97 : Int32), c101] : List Int32) = (9221120237041090560 : UInt64) from by subst hq117; decide]
            show own_Ends p e below _ (T123.setTop (mkF m 143 #[.val (.int p1), .val (.int p2), .val (.int p3), .val (.int p4), .val (.int k), .val (.ref b3), .val (.ref b105), .unset, .unset, .unset] [(.double (9221120237041090560 : UInt64))]))
            refine own_dstore X123 hx #[.val (.int p1), .val (.int p2), .val (.int p3), .val (.int p4), .val (.int k), .val (.ref b3), .val (.ref b105), .val (.double (9221120237041090560 : UInt64)), .second, .unset] (hb hby at_143) rfl rfl ?_
            refine own_aload X123 hx (hb hby at_145) rfl rfl rfl ?_
            refine own_iconst X123 hx (0 : Int32) (hb hby at_147) (by decide) rfl ?_
            have f125 := (f119.keep Kq123)
            have f126 := (f120.keep Kq123 nin0)
            have f127 := (f121.keep Kq123 nin0)
            have f128 := (f122.keep Kq123 nin0)
            have f129 := (f118.keep Kq123 all0)
            refine own_virtualB X123 hx hZ (y := (⟨"java/lang/String", "charAt", "(I)C"⟩ : MethodName)) (z := (⟨"java/lang/String", "charAt", "(I)C"⟩ : MethodName)) hown (hw _ (List.mem_of_getElem? (i := 54) rfl)) (hw _ (List.mem_of_getElem? (i := 55) rfl)) (notFace_of_selects (args := #[]) (mvT hZ (hw _ (List.mem_of_getElem? (i := 57) rfl)))) (hw _ (List.mem_of_getElem? (i := 57) rfl)) (hw _ (List.mem_of_getElem? (i := 56) rfl)) (by decide) rfl (W := 0) (ce := 0) (sl := 0) (by decide) (by decide) [(.int (0 : Int32))] [] (by rw [hml]; rfl) f125 (fun v h' L => v = some (.int (([(78 : Int32), (97 : Int32), c101] : List Int32).getD 0 0)) ∧ L = [] ∧ h' = T123.heap) (StrChars.Road.chN (W := 0) hZ (own_hch hw) (kI := 4) (hw _ (List.mem_of_getElem? (i := 3) rfl)) f125 f126 f127 f128 co111 hb111 (SC.ext f129.2) hzc (SF.ext f129.2) rfm (Nat.le_of_ble_eq_true rfl) (i := 0) (Nat.le_of_ble_eq_true rfl) (j := 0) rfl (by decide) (by decide)) own_pd4 rfl rfl rfl (hb hby at_148) rfl ?_
            intro v130 T130 L130 X130 hQ130
            obtain ⟨rfl, rfl, hh130⟩ := hQ130
            have N130 := Fr.app N123 (Fr.nil n0)
            show own_Ends p e below _ (T130.setTop (mkF m 151 #[.val (.int p1), .val (.int p2), .val (.int p3), .val (.int p4), .val (.int k), .val (.ref b3), .val (.ref b105), .val (.double (9221120237041090560 : UInt64)), .second, .unset] [(.int (78 : Int32))]))
            refine own_istore X130 hx #[.val (.int p1), .val (.int p2), .val (.int p3), .val (.int p4), .val (.int k), .val (.ref b3), .val (.ref b105), .val (.double (9221120237041090560 : UInt64)), .second, .val (.int (78 : Int32))] (hb hby at_151) rfl rfl ?_
            refine own_iload X130 hx (hb hby at_153) rfl rfl ?_
            refine own_bipush X130 hx (73 : Int32) (hb hby at_155) (by decide) rfl ?_
            refine own_icmpT X130 hx (hb hby at_157) (by decide) rfl (by decide) ?_
            refine own_iload X130 hx (hb hby at_175) rfl rfl ?_
            refine own_bipush X130 hx (45 : Int32) (hb hby at_177) (by decide) rfl ?_
            refine own_icmpT X130 hx (hb hby at_179) (by decide) rfl (by decide) ?_
            refine own_dload X130 hx (hb hby at_197) rfl rfl ?_
            refine own_dload X130 hx (hb hby at_199) rfl rfl ?_
            refine own_dcmp X130 hx (-1 : Int32) (hb hby at_201) (by decide +kernel) rfl ?_
            refine own_ifF X130 hx (hb hby at_202) rfl (by decide) ?_
            refine own_iconst X130 hx (1 : Int32) (hb hby at_205) (by decide) rfl ?_
            refine own_goto X130 hx (hb hby at_206) (by decide) rfl ?_
            exact own_retNH X130 hx hZ hh130 HH123 hEL hlocks hret (by simp) (hb hby at_210) (by decide) (by decide) (by decide) ⟨rfl, N130⟩
          · rw [show own_isp ([(78 : Int32), (97 : Int32), c101] : List Int32) = 0 from by simp [own_isp, hq117]]
            refine own_ifF X115 hx (hb hby at_133) rfl (by decide) ?_
            refine own_iconst X115 hx (1 : Int32) (hb hby at_136) (by decide) rfl ?_
            exact own_retNH X115 hx hZ rfl HH115 hEL hlocks hret (by simp) (hb hby at_137) (by decide) (by decide) (by decide) ⟨rfl, N115⟩
    · refine own_iconst X0 hx (4 : Int32) (hb hby at_42) (by decide) rfl ?_
      refine own_newP X0 hx hZ (aty := .char) (hw _ (List.mem_of_getElem? (i := 1) rfl)) e0 (hb hby at_43) (by decide) 4 (by decide) (by decide) (by decide) (by decide) rfl ?_
      intro T131 h131 b131 k131 X131 e131 g131 E131 V131q
      have g_b131 : n0 ≤ b131 := Nat.le_trans (own_oz O0) (Nat.le_of_eq g131.symm)
      have sz_b131 : h0.size ≤ b131 := Nat.le_trans K0.1 (Nat.le_of_eq g131.symm)
      have HH132 := HH0.ext E131
      have K133 := K0.ext E131
      have V131 : Arv Z h131 b131 k131 .char (4 : Int32) [(.int (0 : Int32)), (.int (0 : Int32)), (.int (0 : Int32)), (.int (0 : Int32))] (.int (0 : Int32)) := Arv.pad V131q (pad_rep [] (.int (0 : Int32)) 4)
      refine own_dup X131 hx (hb hby at_45) rfl rfl ?_
      refine own_iconst X131 hx (0 : Int32) (hb hby at_46) (by decide) rfl ?_
      refine own_bipush X131 hx (45 : Int32) (hb hby at_47) (by decide) rfl ?_
      refine own_stC X131 hx hZ e131 V131 ⟨by decide, by decide⟩ 0 rfl (Nat.le_of_ble_eq_true rfl) (by decide) N0 g_b131 (hb hby at_49) rfl ?_
      intro T134 h134 X134 e134 W134 N134 V134
      have HH135 := HH132.wr W134 (Safe.arv hZ.alike V131 (by decide))
      have K136 := K133.wr W134 (Or.inr sz_b131)
      refine own_dup X134 hx (hb hby at_50) rfl rfl ?_
      refine own_iconst X134 hx (1 : Int32) (hb hby at_51) (by decide) rfl ?_
      refine own_bipush X134 hx (73 : Int32) (hb hby at_52) (by decide) rfl ?_
      refine own_stC X134 hx hZ e134 V134 ⟨by decide, by decide⟩ 1 rfl (Nat.le_of_ble_eq_true rfl) (by decide) N134 g_b131 (hb hby at_54) rfl ?_
      intro T137 h137 X137 e137 W137 N137 V137
      have HH138 := HH135.wr W137 (Safe.arv hZ.alike V134 (by decide))
      have K139 := K136.wr W137 (Or.inr sz_b131)
      refine own_dup X137 hx (hb hby at_55) rfl rfl ?_
      refine own_iconst X137 hx (2 : Int32) (hb hby at_56) (by decide) rfl ?_
      refine own_bipush X137 hx (78 : Int32) (hb hby at_57) (by decide) rfl ?_
      refine own_stC X137 hx hZ e137 V137 ⟨by decide, by decide⟩ 2 rfl (Nat.le_of_ble_eq_true rfl) (by decide) N137 g_b131 (hb hby at_59) rfl ?_
      intro T140 h140 X140 e140 W140 N140 V140
      have HH141 := HH138.wr W140 (Safe.arv hZ.alike V137 (by decide))
      have K142 := K139.wr W140 (Or.inr sz_b131)
      refine own_dup X140 hx (hb hby at_60) rfl rfl ?_
      refine own_iconst X140 hx (3 : Int32) (hb hby at_61) (by decide) rfl ?_
      refine own_bipush X140 hx (70 : Int32) (hb hby at_62) (by decide) rfl ?_
      refine own_stC X140 hx hZ e140 V140 ⟨by decide, by decide⟩ 3 rfl (Nat.le_of_ble_eq_true rfl) (by decide) N140 g_b131 (hb hby at_64) rfl ?_
      intro T143 h143 X143 e143 W143 N143 V143
      have HH144 := HH141.wr W143 (Safe.arv hZ.alike V140 (by decide))
      have K145 := K142.wr W143 (Or.inr sz_b131)
      refine own_astore X143 hx #[.val (.int p1), .val (.int p2), .val (.int p3), .val (.int p4), .val (.int k), .val (.ref b131), .unset, .unset, .unset, .unset] (hb hby at_65) rfl rfl rfl ?_
      refine own_goto X143 hx (hb hby at_67) (by decide) rfl ?_
      refine own_iloadN X143 hx (hb hby at_90) rfl rfl ?_
      refine own_iconst X143 hx (1 : Int32) (hb hby at_91) (by decide) rfl ?_
      refine own_iand X143 hx (hb hby at_92) rfl ?_
      refine own_if_eq X143 hx (hb hby at_93) (by decide) rfl rfl (fun hc93_146 => ?_) (fun hc93_146 => ?_)
      · refine own_new X143 hx hZ hown (hw _ (List.mem_of_getElem? (i := 2) rfl)) (hw _ (List.mem_of_getElem? (i := 3) rfl)) (hw _ (List.mem_of_getElem? (i := 4) rfl)) e143 (hb hby at_117) (by decide) (by decide) rfl ?_
        intro T147 h147 b147 X147 e147 g147 E147 A147 D147
        have f148 := (((((O0.ext E131).wr W134 g_b131).wr W137 g_b131).wr W140 g_b131).wr W143 g_b131)
        have g_b147 : n0 ≤ b147 := Nat.le_trans (own_oz f148) (Nat.le_of_eq g147.symm)
        have sz_b147 : h0.size ≤ b147 := Nat.le_trans K145.1 (Nat.le_of_eq g147.symm)
        have HH149 := HH144.ext E147
        have K150 := K145.ext E147
        have Y_b147 := own_sfN g147 E147 HH144
        have Fb147_coder : Fld Z h147 b147 "java/lang/String" "coder" "B" (.int (0 : Int32)) := D147 (Or.inr (hw _ (List.mem_of_getElem? (i := 28) rfl))) (ty := .byte) (by decide)
        have Fb147_value : Fld Z h147 b147 "java/lang/String" "value" "[B" .null := D147 (Or.inr (hw _ (List.mem_of_getElem? (i := 30) rfl))) (ty := (.array .byte)) (by decide)
        refine own_dup X147 hx (hb hby at_120) rfl rfl ?_
        refine own_aload X147 hx (hb hby at_121) rfl rfl rfl ?_
        have hp_b147 : ∀ c ∈ ([(45 : Int32), (73 : Int32), (78 : Int32), (70 : Int32)] : List Int32), ¬ c < 0 ∧ ¬ (255 : Int32) < c := (own_c2 (by decide) (own_c2 (by decide) (own_c2 (by decide) (own_c2 (by decide) own_c0))))
        have f151 := (V143.ext E147)
        have f152 := (f148.ext E147)
        refine own_specialB X147 hx hZ (y := (⟨"java/lang/String", "<init>", "([C)V"⟩ : MethodName)) rfl hown (hw _ (List.mem_of_getElem? (i := 5) rfl)) (hw _ (List.mem_of_getElem? (i := 6) rfl)) (hw _ (List.mem_of_getElem? (i := 7) rfl)) (by decide) e147 (W := 1) (ce := 1) (sl := 4) (by decide) (by decide) [(.ref b131)] [(.ref b147)] (by rw [hml]; rfl) (a := b147) (StrChars.Road.QV Z b147 (4 : Int32) (([(45 : Int32), (73 : Int32), (78 : Int32), (70 : Int32)] : List Int32).map (fun c => c.toInt8.toInt32)) h147 n0) (StrChars.Road.backV (W := 1) hZ (own_hws hw) (kI := 4) (hw _ (List.mem_of_getElem? (i := 3) rfl)) (cs := ([(45 : Int32), (73 : Int32), (78 : Int32), (70 : Int32)] : List Int32)) (bs := (([(45 : Int32), (73 : Int32), (78 : Int32), (70 : Int32)] : List Int32).map (fun c => c.toInt8.toInt32))) (n := 4) g_b147 (own_oz f152) A147 Fb147_value Fb147_coder f151 (SC.ext f152.2) hzc rfl rfl (by decide) (by decide) hp_b147 rfl (by decide) (by decide)) own_pd1 rfl rfl rfl (hb hby at_123) rfl ?_
        intro v153 T153 L153 X153 hQ153
        obtain ⟨rfl, Nq153, Kq153, Es153, Cs153, t153, kb153, gt153, st153, nt153, Vs153, Ks153⟩ := hQ153
        have N153 := Fr.app N143 Nq153
        have HH154 := HH149.keep Kq153 (sfS Y_b147 sf0)
        have K155 := K150.trans Kq153 (allS (Or.inr sz_b147) all0)
        have co153 : StrChars.Road.CodA ([(45 : Int32), (73 : Int32), (78 : Int32), (70 : Int32)] : List Int32) 0 (4 : Int32) (((([(45 : Int32), (73 : Int32), (78 : Int32), (70 : Int32)] : List Int32).map (fun c => c.toInt8.toInt32))).map Value.int) := StrChars.Road.codOf (n := 4) rfl (fun c hc => (hp_b147 c hc).2)
        have hb153 := own_up hp_b147
        show own_Ends p e below _ (T153.setTop (mkF m 126 #[.val (.int p1), .val (.int p2), .val (.int p3), .val (.int p4), .val (.int k), .val (.ref b131), .unset, .unset, .unset, .unset] [(.ref b147)]))
        refine own_astore X153 hx #[.val (.int p1), .val (.int p2), .val (.int p3), .val (.int p4), .val (.int k), .val (.ref b131), .val (.ref b147), .unset, .unset, .unset] (hb hby at_126) rfl rfl rfl ?_
        refine own_aload X153 hx (hb hby at_128) rfl rfl rfl ?_
        have f156 := (f152.keep Kq153 (allS g_b147 all0))
        refine own_staticH X153 hx hZ (y := (⟨"com/example/pincio/pincio/core/CanonicalLiterals", "isSpecial", "(Ljava/lang/String;)Z"⟩ : MethodName)) hown (hw _ (List.mem_of_getElem? (i := 31) rfl)) (hw _ (List.mem_of_getElem? (i := 32) rfl)) (hw _ (List.mem_of_getElem? (i := 33) rfl)) (hw _ (List.mem_of_getElem? (i := 34) rfl)) (by decide) HH154 hEL rfl (by decide) (W := 0) (by decide) (by decide) (by decide) [(.ref b147)] [] (by rw [hml]; rfl) (own_isSpecial l Z a0 hw b147 ([(45 : Int32), (73 : Int32), (78 : Int32), (70 : Int32)] : List Int32) zc T153.heap n0 hEL f156 SC hzc ⟨_, _, _, _, _, Es153, Vs153, Cs153, Ks153, co153, hb153, (Nat.le_of_ble_eq_true rfl)⟩) own_pd2 rfl rfl rfl (hb hby at_130) rfl ?_
        intro v157 T157 L157 X157 hQ157 hZ hown HH157 A157
        obtain ⟨rfl, Nq157, Kq157⟩ := hQ157
        have N157 := Fr.app N153 Nq157
        have K158 := K155.trans Kq157 all0
        show own_Ends p e below _ (T157.setTop (mkF m 133 #[.val (.int p1), .val (.int p2), .val (.int p3), .val (.int p4), .val (.int k), .val (.ref b131), .val (.ref b147), .unset, .unset, .unset] [(.int (own_isp ([(45 : Int32), (73 : Int32), (78 : Int32), (70 : Int32)] : List Int32)))]))
        rw [show own_isp ([(45 : Int32), (73 : Int32), (78 : Int32), (70 : Int32)] : List Int32) = 1 from by decide]
        refine own_ifT X157 hx (hb hby at_133) (by decide) rfl (by decide) ?_
        refine own_aload X157 hx (hb hby at_138) rfl rfl rfl ?_
        have f159 := (f156.keep Kq157 all0)
        have f160 := (Es153.keep Kq157)
        have f161 := (Vs153.keep Kq157 nin0)
        have f162 := (Cs153.keep Kq157 nin0)
        have f163 := (Ks153.keep Kq157 nin0)
        refine own_staticH X157 hx hZ (y := (⟨"com/example/pincio/pincio/core/CanonicalLiterals", "special", "(Ljava/lang/String;)D"⟩ : MethodName)) hown (hw _ (List.mem_of_getElem? (i := 50) rfl)) (hw _ (List.mem_of_getElem? (i := 51) rfl)) (hw _ (List.mem_of_getElem? (i := 33) rfl)) (hw _ (List.mem_of_getElem? (i := 52) rfl)) (by decide) HH157 hEL rfl (by decide) (W := 0) (by decide) (by decide) (by decide) [(.ref b147)] [] (by rw [hml]; rfl) (own_special_ l Z a0 hw b147 ([(45 : Int32), (73 : Int32), (78 : Int32), (70 : Int32)] : List Int32) zc T157.heap n0 hEL f159 SC hzc ⟨_, _, _, _, _, f160, f161, f162, f163, co153, hb153, (Nat.le_of_ble_eq_true rfl)⟩) own_pd3 rfl rfl rfl (hb hby at_140) rfl ?_
        intro v164 T164 L164 X164 hQ164 hZ hown HH164 A164
        obtain ⟨rfl, Nq164, Kq164⟩ := hQ164
        have N164 := Fr.app N157 Nq164
        have K165 := K158.trans Kq164 all0
        rw [show own_spv ([(45 : Int32), (73 : Int32), (78 : Int32), (70 : Int32)] : List Int32) = (18442240474082181120 : UInt64) from by decide]
        show own_Ends p e below _ (T164.setTop (mkF m 143 #[.val (.int p1), .val (.int p2), .val (.int p3), .val (.int p4), .val (.int k), .val (.ref b131), .val (.ref b147), .unset, .unset, .unset] [(.double (18442240474082181120 : UInt64))]))
        refine own_dstore X164 hx #[.val (.int p1), .val (.int p2), .val (.int p3), .val (.int p4), .val (.int k), .val (.ref b131), .val (.ref b147), .val (.double (18442240474082181120 : UInt64)), .second, .unset] (hb hby at_143) rfl rfl ?_
        refine own_aload X164 hx (hb hby at_145) rfl rfl rfl ?_
        refine own_iconst X164 hx (0 : Int32) (hb hby at_147) (by decide) rfl ?_
        have f166 := (f160.keep Kq164)
        have f167 := (f161.keep Kq164 nin0)
        have f168 := (f162.keep Kq164 nin0)
        have f169 := (f163.keep Kq164 nin0)
        have f170 := (f159.keep Kq164 all0)
        refine own_virtualB X164 hx hZ (y := (⟨"java/lang/String", "charAt", "(I)C"⟩ : MethodName)) (z := (⟨"java/lang/String", "charAt", "(I)C"⟩ : MethodName)) hown (hw _ (List.mem_of_getElem? (i := 54) rfl)) (hw _ (List.mem_of_getElem? (i := 55) rfl)) (notFace_of_selects (args := #[]) (mvT hZ (hw _ (List.mem_of_getElem? (i := 57) rfl)))) (hw _ (List.mem_of_getElem? (i := 57) rfl)) (hw _ (List.mem_of_getElem? (i := 56) rfl)) (by decide) rfl (W := 0) (ce := 0) (sl := 0) (by decide) (by decide) [(.int (0 : Int32))] [] (by rw [hml]; rfl) f166 (fun v h' L => v = some (.int (([(45 : Int32), (73 : Int32), (78 : Int32), (70 : Int32)] : List Int32).getD 0 0)) ∧ L = [] ∧ h' = T164.heap) (StrChars.Road.chN (W := 0) hZ (own_hch hw) (kI := 4) (hw _ (List.mem_of_getElem? (i := 3) rfl)) f166 f167 f168 f169 co153 hb153 (SC.ext f170.2) hzc (SF.ext f170.2) rfm (Nat.le_of_ble_eq_true rfl) (i := 0) (Nat.le_of_ble_eq_true rfl) (j := 0) rfl (by decide) (by decide)) own_pd4 rfl rfl rfl (hb hby at_148) rfl ?_
        intro v171 T171 L171 X171 hQ171
        obtain ⟨rfl, rfl, hh171⟩ := hQ171
        have N171 := Fr.app N164 (Fr.nil n0)
        show own_Ends p e below _ (T171.setTop (mkF m 151 #[.val (.int p1), .val (.int p2), .val (.int p3), .val (.int p4), .val (.int k), .val (.ref b131), .val (.ref b147), .val (.double (18442240474082181120 : UInt64)), .second, .unset] [(.int (45 : Int32))]))
        refine own_istore X171 hx #[.val (.int p1), .val (.int p2), .val (.int p3), .val (.int p4), .val (.int k), .val (.ref b131), .val (.ref b147), .val (.double (18442240474082181120 : UInt64)), .second, .val (.int (45 : Int32))] (hb hby at_151) rfl rfl ?_
        refine own_iload X171 hx (hb hby at_153) rfl rfl ?_
        refine own_bipush X171 hx (73 : Int32) (hb hby at_155) (by decide) rfl ?_
        refine own_icmpT X171 hx (hb hby at_157) (by decide) rfl (by decide) ?_
        refine own_iload X171 hx (hb hby at_175) rfl rfl ?_
        refine own_bipush X171 hx (45 : Int32) (hb hby at_177) (by decide) rfl ?_
        refine own_icmpF X171 hx (hb hby at_179) rfl (by decide) ?_
        refine own_dload X171 hx (hb hby at_182) rfl rfl ?_
        refine own_ldcDouble X171 hx hZ hown (hw _ (List.mem_of_getElem? (i := 77) rfl)) (hb hby at_184) rfl ?_
        refine own_dcmp X171 hx (0 : Int32) (hb hby at_187) (by decide +kernel) rfl ?_
        refine own_ifF X171 hx (hb hby at_188) rfl (by decide) ?_
        refine own_iconst X171 hx (1 : Int32) (hb hby at_191) (by decide) rfl ?_
        refine own_goto X171 hx (hb hby at_192) (by decide) rfl ?_
        exact own_retNH X171 hx hZ hh171 HH164 hEL hlocks hret (by simp) (hb hby at_196) (by decide) (by decide) (by decide) ⟨rfl, N171⟩
      · refine own_iloadN X143 hx (hb hby at_96) rfl rfl ?_
        refine own_ldcInt X143 hx hZ hown (hw _ (List.mem_of_getElem? (i := 0) rfl)) (hb hby at_97) rfl ?_
        refine own_iand X143 hx (hb hby at_99) rfl ?_
        refine own_aload X143 hx (hb hby at_100) rfl rfl rfl ?_
        refine own_arraylength X143 hx hZ e143 V143 (hb hby at_102) rfl ?_
        refine own_irem X143 hx (hb hby at_103) (by decide) rfl ?_
        have hi := own_rem4 p2
        generalize ((p2 &&& (2147483647 : Int32)) % (4 : Int32)) = i at hi ⊢
        rcases hi with rfl | rfl | rfl | rfl
        · refine own_istore X143 hx #[.val (.int p1), .val (.int p2), .val (.int p3), .val (.int p4), .val (.int k), .val (.ref b131), .val (.int (0 : Int32)), .unset, .unset, .unset] (hb hby at_104) rfl rfl ?_
          refine own_aload X143 hx (hb hby at_106) rfl rfl rfl ?_
          refine own_iload X143 hx (hb hby at_108) rfl rfl ?_
          refine own_iloadN X143 hx (hb hby at_110) rfl rfl ?_
          refine own_sipush X143 hx (255 : Int32) (hb hby at_111) (by decide) rfl ?_
          refine own_iand X143 hx (hb hby at_114) rfl ?_
          refine own_i2c X143 hx (hb hby at_115) rfl ?_
          have hc172 := own_ch p3
          generalize ((p3 &&& (255 : Int32)).toUInt32.toUInt16.toUInt32.toInt32) = c172 at hc172 ⊢
          refine own_stC X143 hx hZ e143 V143 ⟨by decide, by decide⟩ 0 rfl (Nat.le_of_ble_eq_true rfl) (own_narC hc172) N143 g_b131 (hb hby at_116) rfl ?_
          intro T173 h173 X173 e173 W173 N173 V173
          have HH174 := HH144.wr W173 (Safe.arv hZ.alike V143 (by decide))
          have K175 := K145.wr W173 (Or.inr sz_b131)
          refine own_new X173 hx hZ hown (hw _ (List.mem_of_getElem? (i := 2) rfl)) (hw _ (List.mem_of_getElem? (i := 3) rfl)) (hw _ (List.mem_of_getElem? (i := 4) rfl)) e173 (hb hby at_117) (by decide) (by decide) rfl ?_
          intro T176 h176 b176 X176 e176 g176 E176 A176 D176
          have f177 := ((((((O0.ext E131).wr W134 g_b131).wr W137 g_b131).wr W140 g_b131).wr W143 g_b131).wr W173 g_b131)
          have g_b176 : n0 ≤ b176 := Nat.le_trans (own_oz f177) (Nat.le_of_eq g176.symm)
          have sz_b176 : h0.size ≤ b176 := Nat.le_trans K175.1 (Nat.le_of_eq g176.symm)
          have HH178 := HH174.ext E176
          have K179 := K175.ext E176
          have Y_b176 := own_sfN g176 E176 HH174
          have Fb176_coder : Fld Z h176 b176 "java/lang/String" "coder" "B" (.int (0 : Int32)) := D176 (Or.inr (hw _ (List.mem_of_getElem? (i := 28) rfl))) (ty := .byte) (by decide)
          have Fb176_value : Fld Z h176 b176 "java/lang/String" "value" "[B" .null := D176 (Or.inr (hw _ (List.mem_of_getElem? (i := 30) rfl))) (ty := (.array .byte)) (by decide)
          refine own_dup X176 hx (hb hby at_120) rfl rfl ?_
          refine own_aload X176 hx (hb hby at_121) rfl rfl rfl ?_
          have hp_b176 : ∀ c ∈ ([c172, (73 : Int32), (78 : Int32), (70 : Int32)] : List Int32), ¬ c < 0 ∧ ¬ (255 : Int32) < c := (own_c2 hc172 (own_c2 (by decide) (own_c2 (by decide) (own_c2 (by decide) own_c0))))
          have f180 := (V173.ext E176)
          have f181 := (f177.ext E176)
          refine own_specialB X176 hx hZ (y := (⟨"java/lang/String", "<init>", "([C)V"⟩ : MethodName)) rfl hown (hw _ (List.mem_of_getElem? (i := 5) rfl)) (hw _ (List.mem_of_getElem? (i := 6) rfl)) (hw _ (List.mem_of_getElem? (i := 7) rfl)) (by decide) e176 (W := 1) (ce := 1) (sl := 4) (by decide) (by decide) [(.ref b131)] [(.ref b176)] (by rw [hml]; rfl) (a := b176) (StrChars.Road.QV Z b176 (4 : Int32) (([c172, (73 : Int32), (78 : Int32), (70 : Int32)] : List Int32).map (fun c => c.toInt8.toInt32)) h176 n0) (StrChars.Road.backV (W := 1) hZ (own_hws hw) (kI := 4) (hw _ (List.mem_of_getElem? (i := 3) rfl)) (cs := ([c172, (73 : Int32), (78 : Int32), (70 : Int32)] : List Int32)) (bs := (([c172, (73 : Int32), (78 : Int32), (70 : Int32)] : List Int32).map (fun c => c.toInt8.toInt32))) (n := 4) g_b176 (own_oz f181) A176 Fb176_value Fb176_coder f180 (SC.ext f181.2) hzc rfl rfl (by decide) (by decide) hp_b176 rfl (by decide) (by decide)) own_pd1 rfl rfl rfl (hb hby at_123) rfl ?_
          intro v182 T182 L182 X182 hQ182
          obtain ⟨rfl, Nq182, Kq182, Es182, Cs182, t182, kb182, gt182, st182, nt182, Vs182, Ks182⟩ := hQ182
          have N182 := Fr.app N173 Nq182
          have HH183 := HH178.keep Kq182 (sfS Y_b176 sf0)
          have K184 := K179.trans Kq182 (allS (Or.inr sz_b176) all0)
          have co182 : StrChars.Road.CodA ([c172, (73 : Int32), (78 : Int32), (70 : Int32)] : List Int32) 0 (4 : Int32) (((([c172, (73 : Int32), (78 : Int32), (70 : Int32)] : List Int32).map (fun c => c.toInt8.toInt32))).map Value.int) := StrChars.Road.codOf (n := 4) rfl (fun c hc => (hp_b176 c hc).2)
          have hb182 := own_up hp_b176
          show own_Ends p e below _ (T182.setTop (mkF m 126 #[.val (.int p1), .val (.int p2), .val (.int p3), .val (.int p4), .val (.int k), .val (.ref b131), .val (.int (0 : Int32)), .unset, .unset, .unset] [(.ref b176)]))
          refine own_astore X182 hx #[.val (.int p1), .val (.int p2), .val (.int p3), .val (.int p4), .val (.int k), .val (.ref b131), .val (.ref b176), .unset, .unset, .unset] (hb hby at_126) rfl rfl rfl ?_
          refine own_aload X182 hx (hb hby at_128) rfl rfl rfl ?_
          have f185 := (f181.keep Kq182 (allS g_b176 all0))
          refine own_staticH X182 hx hZ (y := (⟨"com/example/pincio/pincio/core/CanonicalLiterals", "isSpecial", "(Ljava/lang/String;)Z"⟩ : MethodName)) hown (hw _ (List.mem_of_getElem? (i := 31) rfl)) (hw _ (List.mem_of_getElem? (i := 32) rfl)) (hw _ (List.mem_of_getElem? (i := 33) rfl)) (hw _ (List.mem_of_getElem? (i := 34) rfl)) (by decide) HH183 hEL rfl (by decide) (W := 0) (by decide) (by decide) (by decide) [(.ref b176)] [] (by rw [hml]; rfl) (own_isSpecial l Z a0 hw b176 ([c172, (73 : Int32), (78 : Int32), (70 : Int32)] : List Int32) zc T182.heap n0 hEL f185 SC hzc ⟨_, _, _, _, _, Es182, Vs182, Cs182, Ks182, co182, hb182, (Nat.le_of_ble_eq_true rfl)⟩) own_pd2 rfl rfl rfl (hb hby at_130) rfl ?_
          intro v186 T186 L186 X186 hQ186 hZ hown HH186 A186
          obtain ⟨rfl, Nq186, Kq186⟩ := hQ186
          have N186 := Fr.app N182 Nq186
          have K187 := K184.trans Kq186 all0
          show own_Ends p e below _ (T186.setTop (mkF m 133 #[.val (.int p1), .val (.int p2), .val (.int p3), .val (.int p4), .val (.int k), .val (.ref b131), .val (.ref b176), .unset, .unset, .unset] [(.int (own_isp ([c172, (73 : Int32), (78 : Int32), (70 : Int32)] : List Int32)))]))
          by_cases hq188 : c172 = (45 : Int32)
          · rw [show own_isp ([c172, (73 : Int32), (78 : Int32), (70 : Int32)] : List Int32) = 1 from by subst hq188; decide]
            refine own_ifT X186 hx (hb hby at_133) (by decide) rfl (by decide) ?_
            refine own_aload X186 hx (hb hby at_138) rfl rfl rfl ?_
            have f189 := (f185.keep Kq186 all0)
            have f190 := (Es182.keep Kq186)
            have f191 := (Vs182.keep Kq186 nin0)
            have f192 := (Cs182.keep Kq186 nin0)
            have f193 := (Ks182.keep Kq186 nin0)
            refine own_staticH X186 hx hZ (y := (⟨"com/example/pincio/pincio/core/CanonicalLiterals", "special", "(Ljava/lang/String;)D"⟩ : MethodName)) hown (hw _ (List.mem_of_getElem? (i := 50) rfl)) (hw _ (List.mem_of_getElem? (i := 51) rfl)) (hw _ (List.mem_of_getElem? (i := 33) rfl)) (hw _ (List.mem_of_getElem? (i := 52) rfl)) (by decide) HH186 hEL rfl (by decide) (W := 0) (by decide) (by decide) (by decide) [(.ref b176)] [] (by rw [hml]; rfl) (own_special_ l Z a0 hw b176 ([c172, (73 : Int32), (78 : Int32), (70 : Int32)] : List Int32) zc T186.heap n0 hEL f189 SC hzc ⟨_, _, _, _, _, f190, f191, f192, f193, co182, hb182, (Nat.le_of_ble_eq_true rfl)⟩) own_pd3 rfl rfl rfl (hb hby at_140) rfl ?_
            intro v194 T194 L194 X194 hQ194 hZ hown HH194 A194
            obtain ⟨rfl, Nq194, Kq194⟩ := hQ194
            have N194 := Fr.app N186 Nq194
            have K195 := K187.trans Kq194 all0
            rw [show own_spv ([c172, (73 : Int32), (78 : Int32), (70 : Int32)] : List Int32) = (18442240474082181120 : UInt64) from by subst hq188; decide]
            show own_Ends p e below _ (T194.setTop (mkF m 143 #[.val (.int p1), .val (.int p2), .val (.int p3), .val (.int p4), .val (.int k), .val (.ref b131), .val (.ref b176), .unset, .unset, .unset] [(.double (18442240474082181120 : UInt64))]))
            refine own_dstore X194 hx #[.val (.int p1), .val (.int p2), .val (.int p3), .val (.int p4), .val (.int k), .val (.ref b131), .val (.ref b176), .val (.double (18442240474082181120 : UInt64)), .second, .unset] (hb hby at_143) rfl rfl ?_
            refine own_aload X194 hx (hb hby at_145) rfl rfl rfl ?_
            refine own_iconst X194 hx (0 : Int32) (hb hby at_147) (by decide) rfl ?_
            have f196 := (f190.keep Kq194)
            have f197 := (f191.keep Kq194 nin0)
            have f198 := (f192.keep Kq194 nin0)
            have f199 := (f193.keep Kq194 nin0)
            have f200 := (f189.keep Kq194 all0)
            refine own_virtualB X194 hx hZ (y := (⟨"java/lang/String", "charAt", "(I)C"⟩ : MethodName)) (z := (⟨"java/lang/String", "charAt", "(I)C"⟩ : MethodName)) hown (hw _ (List.mem_of_getElem? (i := 54) rfl)) (hw _ (List.mem_of_getElem? (i := 55) rfl)) (notFace_of_selects (args := #[]) (mvT hZ (hw _ (List.mem_of_getElem? (i := 57) rfl)))) (hw _ (List.mem_of_getElem? (i := 57) rfl)) (hw _ (List.mem_of_getElem? (i := 56) rfl)) (by decide) rfl (W := 0) (ce := 0) (sl := 0) (by decide) (by decide) [(.int (0 : Int32))] [] (by rw [hml]; rfl) f196 (fun v h' L => v = some (.int (([c172, (73 : Int32), (78 : Int32), (70 : Int32)] : List Int32).getD 0 0)) ∧ L = [] ∧ h' = T194.heap) (StrChars.Road.chN (W := 0) hZ (own_hch hw) (kI := 4) (hw _ (List.mem_of_getElem? (i := 3) rfl)) f196 f197 f198 f199 co182 hb182 (SC.ext f200.2) hzc (SF.ext f200.2) rfm (Nat.le_of_ble_eq_true rfl) (i := 0) (Nat.le_of_ble_eq_true rfl) (j := 0) rfl (by decide) (by decide)) own_pd4 rfl rfl rfl (hb hby at_148) rfl ?_
            intro v201 T201 L201 X201 hQ201
            obtain ⟨rfl, rfl, hh201⟩ := hQ201
            have N201 := Fr.app N194 (Fr.nil n0)
            show own_Ends p e below _ (T201.setTop (mkF m 151 #[.val (.int p1), .val (.int p2), .val (.int p3), .val (.int p4), .val (.int k), .val (.ref b131), .val (.ref b176), .val (.double (18442240474082181120 : UInt64)), .second, .unset] [(.int c172)]))
            refine own_istore X201 hx #[.val (.int p1), .val (.int p2), .val (.int p3), .val (.int p4), .val (.int k), .val (.ref b131), .val (.ref b176), .val (.double (18442240474082181120 : UInt64)), .second, .val (.int c172)] (hb hby at_151) rfl rfl ?_
            refine own_iload X201 hx (hb hby at_153) rfl rfl ?_
            refine own_bipush X201 hx (73 : Int32) (hb hby at_155) (by decide) rfl ?_
            refine own_icmpT X201 hx (hb hby at_157) (by decide) rfl (by rw [hq188]; decide) ?_
            refine own_iload X201 hx (hb hby at_175) rfl rfl ?_
            refine own_bipush X201 hx (45 : Int32) (hb hby at_177) (by decide) rfl ?_
            refine own_icmpF X201 hx (hb hby at_179) rfl (by rw [hq188]; decide) ?_
            refine own_dload X201 hx (hb hby at_182) rfl rfl ?_
            refine own_ldcDouble X201 hx hZ hown (hw _ (List.mem_of_getElem? (i := 77) rfl)) (hb hby at_184) rfl ?_
            refine own_dcmp X201 hx (0 : Int32) (hb hby at_187) (by decide +kernel) rfl ?_
            refine own_ifF X201 hx (hb hby at_188) rfl (by decide) ?_
            refine own_iconst X201 hx (1 : Int32) (hb hby at_191) (by decide) rfl ?_
            refine own_goto X201 hx (hb hby at_192) (by decide) rfl ?_
            exact own_retNH X201 hx hZ hh201 HH194 hEL hlocks hret (by simp) (hb hby at_196) (by decide) (by decide) (by decide) ⟨rfl, N201⟩
          · rw [show own_isp ([c172, (73 : Int32), (78 : Int32), (70 : Int32)] : List Int32) = 0 from by simp [own_isp, hq188]]
            refine own_ifF X186 hx (hb hby at_133) rfl (by decide) ?_
            refine own_iconst X186 hx (1 : Int32) (hb hby at_136) (by decide) rfl ?_
            exact own_retNH X186 hx hZ rfl HH186 hEL hlocks hret (by simp) (hb hby at_137) (by decide) (by decide) (by decide) ⟨rfl, N186⟩
        · refine own_istore X143 hx #[.val (.int p1), .val (.int p2), .val (.int p3), .val (.int p4), .val (.int k), .val (.ref b131), .val (.int (1 : Int32)), .unset, .unset, .unset] (hb hby at_104) rfl rfl ?_
          refine own_aload X143 hx (hb hby at_106) rfl rfl rfl ?_
          refine own_iload X143 hx (hb hby at_108) rfl rfl ?_
          refine own_iloadN X143 hx (hb hby at_110) rfl rfl ?_
          refine own_sipush X143 hx (255 : Int32) (hb hby at_111) (by decide) rfl ?_
          refine own_iand X143 hx (hb hby at_114) rfl ?_
          refine own_i2c X143 hx (hb hby at_115) rfl ?_
          have hc202 := own_ch p3
          generalize ((p3 &&& (255 : Int32)).toUInt32.toUInt16.toUInt32.toInt32) = c202 at hc202 ⊢
          refine own_stC X143 hx hZ e143 V143 ⟨by decide, by decide⟩ 1 rfl (Nat.le_of_ble_eq_true rfl) (own_narC hc202) N143 g_b131 (hb hby at_116) rfl ?_
          intro T203 h203 X203 e203 W203 N203 V203
          have HH204 := HH144.wr W203 (Safe.arv hZ.alike V143 (by decide))
          have K205 := K145.wr W203 (Or.inr sz_b131)
          refine own_new X203 hx hZ hown (hw _ (List.mem_of_getElem? (i := 2) rfl)) (hw _ (List.mem_of_getElem? (i := 3) rfl)) (hw _ (List.mem_of_getElem? (i := 4) rfl)) e203 (hb hby at_117) (by decide) (by decide) rfl ?_
          intro T206 h206 b206 X206 e206 g206 E206 A206 D206
          have f207 := ((((((O0.ext E131).wr W134 g_b131).wr W137 g_b131).wr W140 g_b131).wr W143 g_b131).wr W203 g_b131)
          have g_b206 : n0 ≤ b206 := Nat.le_trans (own_oz f207) (Nat.le_of_eq g206.symm)
          have sz_b206 : h0.size ≤ b206 := Nat.le_trans K205.1 (Nat.le_of_eq g206.symm)
          have HH208 := HH204.ext E206
          have K209 := K205.ext E206
          have Y_b206 := own_sfN g206 E206 HH204
          have Fb206_coder : Fld Z h206 b206 "java/lang/String" "coder" "B" (.int (0 : Int32)) := D206 (Or.inr (hw _ (List.mem_of_getElem? (i := 28) rfl))) (ty := .byte) (by decide)
          have Fb206_value : Fld Z h206 b206 "java/lang/String" "value" "[B" .null := D206 (Or.inr (hw _ (List.mem_of_getElem? (i := 30) rfl))) (ty := (.array .byte)) (by decide)
          refine own_dup X206 hx (hb hby at_120) rfl rfl ?_
          refine own_aload X206 hx (hb hby at_121) rfl rfl rfl ?_
          have hp_b206 : ∀ c ∈ ([(45 : Int32), c202, (78 : Int32), (70 : Int32)] : List Int32), ¬ c < 0 ∧ ¬ (255 : Int32) < c := (own_c2 (by decide) (own_c2 hc202 (own_c2 (by decide) (own_c2 (by decide) own_c0))))
          have f210 := (V203.ext E206)
          have f211 := (f207.ext E206)
          refine own_specialB X206 hx hZ (y := (⟨"java/lang/String", "<init>", "([C)V"⟩ : MethodName)) rfl hown (hw _ (List.mem_of_getElem? (i := 5) rfl)) (hw _ (List.mem_of_getElem? (i := 6) rfl)) (hw _ (List.mem_of_getElem? (i := 7) rfl)) (by decide) e206 (W := 1) (ce := 1) (sl := 4) (by decide) (by decide) [(.ref b131)] [(.ref b206)] (by rw [hml]; rfl) (a := b206) (StrChars.Road.QV Z b206 (4 : Int32) (([(45 : Int32), c202, (78 : Int32), (70 : Int32)] : List Int32).map (fun c => c.toInt8.toInt32)) h206 n0) (StrChars.Road.backV (W := 1) hZ (own_hws hw) (kI := 4) (hw _ (List.mem_of_getElem? (i := 3) rfl)) (cs := ([(45 : Int32), c202, (78 : Int32), (70 : Int32)] : List Int32)) (bs := (([(45 : Int32), c202, (78 : Int32), (70 : Int32)] : List Int32).map (fun c => c.toInt8.toInt32))) (n := 4) g_b206 (own_oz f211) A206 Fb206_value Fb206_coder f210 (SC.ext f211.2) hzc rfl rfl (by decide) (by decide) hp_b206 rfl (by decide) (by decide)) own_pd1 rfl rfl rfl (hb hby at_123) rfl ?_
          intro v212 T212 L212 X212 hQ212
          obtain ⟨rfl, Nq212, Kq212, Es212, Cs212, t212, kb212, gt212, st212, nt212, Vs212, Ks212⟩ := hQ212
          have N212 := Fr.app N203 Nq212
          have HH213 := HH208.keep Kq212 (sfS Y_b206 sf0)
          have K214 := K209.trans Kq212 (allS (Or.inr sz_b206) all0)
          have co212 : StrChars.Road.CodA ([(45 : Int32), c202, (78 : Int32), (70 : Int32)] : List Int32) 0 (4 : Int32) (((([(45 : Int32), c202, (78 : Int32), (70 : Int32)] : List Int32).map (fun c => c.toInt8.toInt32))).map Value.int) := StrChars.Road.codOf (n := 4) rfl (fun c hc => (hp_b206 c hc).2)
          have hb212 := own_up hp_b206
          show own_Ends p e below _ (T212.setTop (mkF m 126 #[.val (.int p1), .val (.int p2), .val (.int p3), .val (.int p4), .val (.int k), .val (.ref b131), .val (.int (1 : Int32)), .unset, .unset, .unset] [(.ref b206)]))
          refine own_astore X212 hx #[.val (.int p1), .val (.int p2), .val (.int p3), .val (.int p4), .val (.int k), .val (.ref b131), .val (.ref b206), .unset, .unset, .unset] (hb hby at_126) rfl rfl rfl ?_
          refine own_aload X212 hx (hb hby at_128) rfl rfl rfl ?_
          have f215 := (f211.keep Kq212 (allS g_b206 all0))
          refine own_staticH X212 hx hZ (y := (⟨"com/example/pincio/pincio/core/CanonicalLiterals", "isSpecial", "(Ljava/lang/String;)Z"⟩ : MethodName)) hown (hw _ (List.mem_of_getElem? (i := 31) rfl)) (hw _ (List.mem_of_getElem? (i := 32) rfl)) (hw _ (List.mem_of_getElem? (i := 33) rfl)) (hw _ (List.mem_of_getElem? (i := 34) rfl)) (by decide) HH213 hEL rfl (by decide) (W := 0) (by decide) (by decide) (by decide) [(.ref b206)] [] (by rw [hml]; rfl) (own_isSpecial l Z a0 hw b206 ([(45 : Int32), c202, (78 : Int32), (70 : Int32)] : List Int32) zc T212.heap n0 hEL f215 SC hzc ⟨_, _, _, _, _, Es212, Vs212, Cs212, Ks212, co212, hb212, (Nat.le_of_ble_eq_true rfl)⟩) own_pd2 rfl rfl rfl (hb hby at_130) rfl ?_
          intro v216 T216 L216 X216 hQ216 hZ hown HH216 A216
          obtain ⟨rfl, Nq216, Kq216⟩ := hQ216
          have N216 := Fr.app N212 Nq216
          have K217 := K214.trans Kq216 all0
          show own_Ends p e below _ (T216.setTop (mkF m 133 #[.val (.int p1), .val (.int p2), .val (.int p3), .val (.int p4), .val (.int k), .val (.ref b131), .val (.ref b206), .unset, .unset, .unset] [(.int (own_isp ([(45 : Int32), c202, (78 : Int32), (70 : Int32)] : List Int32)))]))
          by_cases hq218 : c202 = (73 : Int32)
          · rw [show own_isp ([(45 : Int32), c202, (78 : Int32), (70 : Int32)] : List Int32) = 1 from by subst hq218; decide]
            refine own_ifT X216 hx (hb hby at_133) (by decide) rfl (by decide) ?_
            refine own_aload X216 hx (hb hby at_138) rfl rfl rfl ?_
            have f219 := (f215.keep Kq216 all0)
            have f220 := (Es212.keep Kq216)
            have f221 := (Vs212.keep Kq216 nin0)
            have f222 := (Cs212.keep Kq216 nin0)
            have f223 := (Ks212.keep Kq216 nin0)
            refine own_staticH X216 hx hZ (y := (⟨"com/example/pincio/pincio/core/CanonicalLiterals", "special", "(Ljava/lang/String;)D"⟩ : MethodName)) hown (hw _ (List.mem_of_getElem? (i := 50) rfl)) (hw _ (List.mem_of_getElem? (i := 51) rfl)) (hw _ (List.mem_of_getElem? (i := 33) rfl)) (hw _ (List.mem_of_getElem? (i := 52) rfl)) (by decide) HH216 hEL rfl (by decide) (W := 0) (by decide) (by decide) (by decide) [(.ref b206)] [] (by rw [hml]; rfl) (own_special_ l Z a0 hw b206 ([(45 : Int32), c202, (78 : Int32), (70 : Int32)] : List Int32) zc T216.heap n0 hEL f219 SC hzc ⟨_, _, _, _, _, f220, f221, f222, f223, co212, hb212, (Nat.le_of_ble_eq_true rfl)⟩) own_pd3 rfl rfl rfl (hb hby at_140) rfl ?_
            intro v224 T224 L224 X224 hQ224 hZ hown HH224 A224
            obtain ⟨rfl, Nq224, Kq224⟩ := hQ224
            have N224 := Fr.app N216 Nq224
            have K225 := K217.trans Kq224 all0
            rw [show own_spv ([(45 : Int32), c202, (78 : Int32), (70 : Int32)] : List Int32) = (18442240474082181120 : UInt64) from by subst hq218; decide]
            show own_Ends p e below _ (T224.setTop (mkF m 143 #[.val (.int p1), .val (.int p2), .val (.int p3), .val (.int p4), .val (.int k), .val (.ref b131), .val (.ref b206), .unset, .unset, .unset] [(.double (18442240474082181120 : UInt64))]))
            refine own_dstore X224 hx #[.val (.int p1), .val (.int p2), .val (.int p3), .val (.int p4), .val (.int k), .val (.ref b131), .val (.ref b206), .val (.double (18442240474082181120 : UInt64)), .second, .unset] (hb hby at_143) rfl rfl ?_
            refine own_aload X224 hx (hb hby at_145) rfl rfl rfl ?_
            refine own_iconst X224 hx (0 : Int32) (hb hby at_147) (by decide) rfl ?_
            have f226 := (f220.keep Kq224)
            have f227 := (f221.keep Kq224 nin0)
            have f228 := (f222.keep Kq224 nin0)
            have f229 := (f223.keep Kq224 nin0)
            have f230 := (f219.keep Kq224 all0)
            refine own_virtualB X224 hx hZ (y := (⟨"java/lang/String", "charAt", "(I)C"⟩ : MethodName)) (z := (⟨"java/lang/String", "charAt", "(I)C"⟩ : MethodName)) hown (hw _ (List.mem_of_getElem? (i := 54) rfl)) (hw _ (List.mem_of_getElem? (i := 55) rfl)) (notFace_of_selects (args := #[]) (mvT hZ (hw _ (List.mem_of_getElem? (i := 57) rfl)))) (hw _ (List.mem_of_getElem? (i := 57) rfl)) (hw _ (List.mem_of_getElem? (i := 56) rfl)) (by decide) rfl (W := 0) (ce := 0) (sl := 0) (by decide) (by decide) [(.int (0 : Int32))] [] (by rw [hml]; rfl) f226 (fun v h' L => v = some (.int (([(45 : Int32), c202, (78 : Int32), (70 : Int32)] : List Int32).getD 0 0)) ∧ L = [] ∧ h' = T224.heap) (StrChars.Road.chN (W := 0) hZ (own_hch hw) (kI := 4) (hw _ (List.mem_of_getElem? (i := 3) rfl)) f226 f227 f228 f229 co212 hb212 (SC.ext f230.2) hzc (SF.ext f230.2) rfm (Nat.le_of_ble_eq_true rfl) (i := 0) (Nat.le_of_ble_eq_true rfl) (j := 0) rfl (by decide) (by decide)) own_pd4 rfl rfl rfl (hb hby at_148) rfl ?_
            intro v231 T231 L231 X231 hQ231
            obtain ⟨rfl, rfl, hh231⟩ := hQ231
            have N231 := Fr.app N224 (Fr.nil n0)
            show own_Ends p e below _ (T231.setTop (mkF m 151 #[.val (.int p1), .val (.int p2), .val (.int p3), .val (.int p4), .val (.int k), .val (.ref b131), .val (.ref b206), .val (.double (18442240474082181120 : UInt64)), .second, .unset] [(.int (45 : Int32))]))
            refine own_istore X231 hx #[.val (.int p1), .val (.int p2), .val (.int p3), .val (.int p4), .val (.int k), .val (.ref b131), .val (.ref b206), .val (.double (18442240474082181120 : UInt64)), .second, .val (.int (45 : Int32))] (hb hby at_151) rfl rfl ?_
            refine own_iload X231 hx (hb hby at_153) rfl rfl ?_
            refine own_bipush X231 hx (73 : Int32) (hb hby at_155) (by decide) rfl ?_
            refine own_icmpT X231 hx (hb hby at_157) (by decide) rfl (by decide) ?_
            refine own_iload X231 hx (hb hby at_175) rfl rfl ?_
            refine own_bipush X231 hx (45 : Int32) (hb hby at_177) (by decide) rfl ?_
            refine own_icmpF X231 hx (hb hby at_179) rfl (by decide) ?_
            refine own_dload X231 hx (hb hby at_182) rfl rfl ?_
            refine own_ldcDouble X231 hx hZ hown (hw _ (List.mem_of_getElem? (i := 77) rfl)) (hb hby at_184) rfl ?_
            refine own_dcmp X231 hx (0 : Int32) (hb hby at_187) (by decide +kernel) rfl ?_
            refine own_ifF X231 hx (hb hby at_188) rfl (by decide) ?_
            refine own_iconst X231 hx (1 : Int32) (hb hby at_191) (by decide) rfl ?_
            refine own_goto X231 hx (hb hby at_192) (by decide) rfl ?_
            exact own_retNH X231 hx hZ hh231 HH224 hEL hlocks hret (by simp) (hb hby at_196) (by decide) (by decide) (by decide) ⟨rfl, N231⟩
          · rw [show own_isp ([(45 : Int32), c202, (78 : Int32), (70 : Int32)] : List Int32) = 0 from by simp [own_isp, hq218]]
            refine own_ifF X216 hx (hb hby at_133) rfl (by decide) ?_
            refine own_iconst X216 hx (1 : Int32) (hb hby at_136) (by decide) rfl ?_
            exact own_retNH X216 hx hZ rfl HH216 hEL hlocks hret (by simp) (hb hby at_137) (by decide) (by decide) (by decide) ⟨rfl, N216⟩
        · refine own_istore X143 hx #[.val (.int p1), .val (.int p2), .val (.int p3), .val (.int p4), .val (.int k), .val (.ref b131), .val (.int (2 : Int32)), .unset, .unset, .unset] (hb hby at_104) rfl rfl ?_
          refine own_aload X143 hx (hb hby at_106) rfl rfl rfl ?_
          refine own_iload X143 hx (hb hby at_108) rfl rfl ?_
          refine own_iloadN X143 hx (hb hby at_110) rfl rfl ?_
          refine own_sipush X143 hx (255 : Int32) (hb hby at_111) (by decide) rfl ?_
          refine own_iand X143 hx (hb hby at_114) rfl ?_
          refine own_i2c X143 hx (hb hby at_115) rfl ?_
          have hc232 := own_ch p3
          generalize ((p3 &&& (255 : Int32)).toUInt32.toUInt16.toUInt32.toInt32) = c232 at hc232 ⊢
          refine own_stC X143 hx hZ e143 V143 ⟨by decide, by decide⟩ 2 rfl (Nat.le_of_ble_eq_true rfl) (own_narC hc232) N143 g_b131 (hb hby at_116) rfl ?_
          intro T233 h233 X233 e233 W233 N233 V233
          have HH234 := HH144.wr W233 (Safe.arv hZ.alike V143 (by decide))
          have K235 := K145.wr W233 (Or.inr sz_b131)
          refine own_new X233 hx hZ hown (hw _ (List.mem_of_getElem? (i := 2) rfl)) (hw _ (List.mem_of_getElem? (i := 3) rfl)) (hw _ (List.mem_of_getElem? (i := 4) rfl)) e233 (hb hby at_117) (by decide) (by decide) rfl ?_
          intro T236 h236 b236 X236 e236 g236 E236 A236 D236
          have f237 := ((((((O0.ext E131).wr W134 g_b131).wr W137 g_b131).wr W140 g_b131).wr W143 g_b131).wr W233 g_b131)
          have g_b236 : n0 ≤ b236 := Nat.le_trans (own_oz f237) (Nat.le_of_eq g236.symm)
          have sz_b236 : h0.size ≤ b236 := Nat.le_trans K235.1 (Nat.le_of_eq g236.symm)
          have HH238 := HH234.ext E236
          have K239 := K235.ext E236
          have Y_b236 := own_sfN g236 E236 HH234
          have Fb236_coder : Fld Z h236 b236 "java/lang/String" "coder" "B" (.int (0 : Int32)) := D236 (Or.inr (hw _ (List.mem_of_getElem? (i := 28) rfl))) (ty := .byte) (by decide)
          have Fb236_value : Fld Z h236 b236 "java/lang/String" "value" "[B" .null := D236 (Or.inr (hw _ (List.mem_of_getElem? (i := 30) rfl))) (ty := (.array .byte)) (by decide)
          refine own_dup X236 hx (hb hby at_120) rfl rfl ?_
          refine own_aload X236 hx (hb hby at_121) rfl rfl rfl ?_
          have hp_b236 : ∀ c ∈ ([(45 : Int32), (73 : Int32), c232, (70 : Int32)] : List Int32), ¬ c < 0 ∧ ¬ (255 : Int32) < c := (own_c2 (by decide) (own_c2 (by decide) (own_c2 hc232 (own_c2 (by decide) own_c0))))
          have f240 := (V233.ext E236)
          have f241 := (f237.ext E236)
          refine own_specialB X236 hx hZ (y := (⟨"java/lang/String", "<init>", "([C)V"⟩ : MethodName)) rfl hown (hw _ (List.mem_of_getElem? (i := 5) rfl)) (hw _ (List.mem_of_getElem? (i := 6) rfl)) (hw _ (List.mem_of_getElem? (i := 7) rfl)) (by decide) e236 (W := 1) (ce := 1) (sl := 4) (by decide) (by decide) [(.ref b131)] [(.ref b236)] (by rw [hml]; rfl) (a := b236) (StrChars.Road.QV Z b236 (4 : Int32) (([(45 : Int32), (73 : Int32), c232, (70 : Int32)] : List Int32).map (fun c => c.toInt8.toInt32)) h236 n0) (StrChars.Road.backV (W := 1) hZ (own_hws hw) (kI := 4) (hw _ (List.mem_of_getElem? (i := 3) rfl)) (cs := ([(45 : Int32), (73 : Int32), c232, (70 : Int32)] : List Int32)) (bs := (([(45 : Int32), (73 : Int32), c232, (70 : Int32)] : List Int32).map (fun c => c.toInt8.toInt32))) (n := 4) g_b236 (own_oz f241) A236 Fb236_value Fb236_coder f240 (SC.ext f241.2) hzc rfl rfl (by decide) (by decide) hp_b236 rfl (by decide) (by decide)) own_pd1 rfl rfl rfl (hb hby at_123) rfl ?_
          intro v242 T242 L242 X242 hQ242
          obtain ⟨rfl, Nq242, Kq242, Es242, Cs242, t242, kb242, gt242, st242, nt242, Vs242, Ks242⟩ := hQ242
          have N242 := Fr.app N233 Nq242
          have HH243 := HH238.keep Kq242 (sfS Y_b236 sf0)
          have K244 := K239.trans Kq242 (allS (Or.inr sz_b236) all0)
          have co242 : StrChars.Road.CodA ([(45 : Int32), (73 : Int32), c232, (70 : Int32)] : List Int32) 0 (4 : Int32) (((([(45 : Int32), (73 : Int32), c232, (70 : Int32)] : List Int32).map (fun c => c.toInt8.toInt32))).map Value.int) := StrChars.Road.codOf (n := 4) rfl (fun c hc => (hp_b236 c hc).2)
          have hb242 := own_up hp_b236
          show own_Ends p e below _ (T242.setTop (mkF m 126 #[.val (.int p1), .val (.int p2), .val (.int p3), .val (.int p4), .val (.int k), .val (.ref b131), .val (.int (2 : Int32)), .unset, .unset, .unset] [(.ref b236)]))
          refine own_astore X242 hx #[.val (.int p1), .val (.int p2), .val (.int p3), .val (.int p4), .val (.int k), .val (.ref b131), .val (.ref b236), .unset, .unset, .unset] (hb hby at_126) rfl rfl rfl ?_
          refine own_aload X242 hx (hb hby at_128) rfl rfl rfl ?_
          have f245 := (f241.keep Kq242 (allS g_b236 all0))
          refine own_staticH X242 hx hZ (y := (⟨"com/example/pincio/pincio/core/CanonicalLiterals", "isSpecial", "(Ljava/lang/String;)Z"⟩ : MethodName)) hown (hw _ (List.mem_of_getElem? (i := 31) rfl)) (hw _ (List.mem_of_getElem? (i := 32) rfl)) (hw _ (List.mem_of_getElem? (i := 33) rfl)) (hw _ (List.mem_of_getElem? (i := 34) rfl)) (by decide) HH243 hEL rfl (by decide) (W := 0) (by decide) (by decide) (by decide) [(.ref b236)] [] (by rw [hml]; rfl) (own_isSpecial l Z a0 hw b236 ([(45 : Int32), (73 : Int32), c232, (70 : Int32)] : List Int32) zc T242.heap n0 hEL f245 SC hzc ⟨_, _, _, _, _, Es242, Vs242, Cs242, Ks242, co242, hb242, (Nat.le_of_ble_eq_true rfl)⟩) own_pd2 rfl rfl rfl (hb hby at_130) rfl ?_
          intro v246 T246 L246 X246 hQ246 hZ hown HH246 A246
          obtain ⟨rfl, Nq246, Kq246⟩ := hQ246
          have N246 := Fr.app N242 Nq246
          have K247 := K244.trans Kq246 all0
          show own_Ends p e below _ (T246.setTop (mkF m 133 #[.val (.int p1), .val (.int p2), .val (.int p3), .val (.int p4), .val (.int k), .val (.ref b131), .val (.ref b236), .unset, .unset, .unset] [(.int (own_isp ([(45 : Int32), (73 : Int32), c232, (70 : Int32)] : List Int32)))]))
          by_cases hq248 : c232 = (78 : Int32)
          · rw [show own_isp ([(45 : Int32), (73 : Int32), c232, (70 : Int32)] : List Int32) = 1 from by subst hq248; decide]
            refine own_ifT X246 hx (hb hby at_133) (by decide) rfl (by decide) ?_
            refine own_aload X246 hx (hb hby at_138) rfl rfl rfl ?_
            have f249 := (f245.keep Kq246 all0)
            have f250 := (Es242.keep Kq246)
            have f251 := (Vs242.keep Kq246 nin0)
            have f252 := (Cs242.keep Kq246 nin0)
            have f253 := (Ks242.keep Kq246 nin0)
            refine own_staticH X246 hx hZ (y := (⟨"com/example/pincio/pincio/core/CanonicalLiterals", "special", "(Ljava/lang/String;)D"⟩ : MethodName)) hown (hw _ (List.mem_of_getElem? (i := 50) rfl)) (hw _ (List.mem_of_getElem? (i := 51) rfl)) (hw _ (List.mem_of_getElem? (i := 33) rfl)) (hw _ (List.mem_of_getElem? (i := 52) rfl)) (by decide) HH246 hEL rfl (by decide) (W := 0) (by decide) (by decide) (by decide) [(.ref b236)] [] (by rw [hml]; rfl) (own_special_ l Z a0 hw b236 ([(45 : Int32), (73 : Int32), c232, (70 : Int32)] : List Int32) zc T246.heap n0 hEL f249 SC hzc ⟨_, _, _, _, _, f250, f251, f252, f253, co242, hb242, (Nat.le_of_ble_eq_true rfl)⟩) own_pd3 rfl rfl rfl (hb hby at_140) rfl ?_
            intro v254 T254 L254 X254 hQ254 hZ hown HH254 A254
            obtain ⟨rfl, Nq254, Kq254⟩ := hQ254
            have N254 := Fr.app N246 Nq254
            have K255 := K247.trans Kq254 all0
            rw [show own_spv ([(45 : Int32), (73 : Int32), c232, (70 : Int32)] : List Int32) = (18442240474082181120 : UInt64) from by subst hq248; decide]
            show own_Ends p e below _ (T254.setTop (mkF m 143 #[.val (.int p1), .val (.int p2), .val (.int p3), .val (.int p4), .val (.int k), .val (.ref b131), .val (.ref b236), .unset, .unset, .unset] [(.double (18442240474082181120 : UInt64))]))
            refine own_dstore X254 hx #[.val (.int p1), .val (.int p2), .val (.int p3), .val (.int p4), .val (.int k), .val (.ref b131), .val (.ref b236), .val (.double (18442240474082181120 : UInt64)), .second, .unset] (hb hby at_143) rfl rfl ?_
            refine own_aload X254 hx (hb hby at_145) rfl rfl rfl ?_
            refine own_iconst X254 hx (0 : Int32) (hb hby at_147) (by decide) rfl ?_
            have f256 := (f250.keep Kq254)
            have f257 := (f251.keep Kq254 nin0)
            have f258 := (f252.keep Kq254 nin0)
            have f259 := (f253.keep Kq254 nin0)
            have f260 := (f249.keep Kq254 all0)
            refine own_virtualB X254 hx hZ (y := (⟨"java/lang/String", "charAt", "(I)C"⟩ : MethodName)) (z := (⟨"java/lang/String", "charAt", "(I)C"⟩ : MethodName)) hown (hw _ (List.mem_of_getElem? (i := 54) rfl)) (hw _ (List.mem_of_getElem? (i := 55) rfl)) (notFace_of_selects (args := #[]) (mvT hZ (hw _ (List.mem_of_getElem? (i := 57) rfl)))) (hw _ (List.mem_of_getElem? (i := 57) rfl)) (hw _ (List.mem_of_getElem? (i := 56) rfl)) (by decide) rfl (W := 0) (ce := 0) (sl := 0) (by decide) (by decide) [(.int (0 : Int32))] [] (by rw [hml]; rfl) f256 (fun v h' L => v = some (.int (([(45 : Int32), (73 : Int32), c232, (70 : Int32)] : List Int32).getD 0 0)) ∧ L = [] ∧ h' = T254.heap) (StrChars.Road.chN (W := 0) hZ (own_hch hw) (kI := 4) (hw _ (List.mem_of_getElem? (i := 3) rfl)) f256 f257 f258 f259 co242 hb242 (SC.ext f260.2) hzc (SF.ext f260.2) rfm (Nat.le_of_ble_eq_true rfl) (i := 0) (Nat.le_of_ble_eq_true rfl) (j := 0) rfl (by decide) (by decide)) own_pd4 rfl rfl rfl (hb hby at_148) rfl ?_
            intro v261 T261 L261 X261 hQ261
            obtain ⟨rfl, rfl, hh261⟩ := hQ261
            have N261 := Fr.app N254 (Fr.nil n0)
            show own_Ends p e below _ (T261.setTop (mkF m 151 #[.val (.int p1), .val (.int p2), .val (.int p3), .val (.int p4), .val (.int k), .val (.ref b131), .val (.ref b236), .val (.double (18442240474082181120 : UInt64)), .second, .unset] [(.int (45 : Int32))]))
            refine own_istore X261 hx #[.val (.int p1), .val (.int p2), .val (.int p3), .val (.int p4), .val (.int k), .val (.ref b131), .val (.ref b236), .val (.double (18442240474082181120 : UInt64)), .second, .val (.int (45 : Int32))] (hb hby at_151) rfl rfl ?_
            refine own_iload X261 hx (hb hby at_153) rfl rfl ?_
            refine own_bipush X261 hx (73 : Int32) (hb hby at_155) (by decide) rfl ?_
            refine own_icmpT X261 hx (hb hby at_157) (by decide) rfl (by decide) ?_
            refine own_iload X261 hx (hb hby at_175) rfl rfl ?_
            refine own_bipush X261 hx (45 : Int32) (hb hby at_177) (by decide) rfl ?_
            refine own_icmpF X261 hx (hb hby at_179) rfl (by decide) ?_
            refine own_dload X261 hx (hb hby at_182) rfl rfl ?_
            refine own_ldcDouble X261 hx hZ hown (hw _ (List.mem_of_getElem? (i := 77) rfl)) (hb hby at_184) rfl ?_
            refine own_dcmp X261 hx (0 : Int32) (hb hby at_187) (by decide +kernel) rfl ?_
            refine own_ifF X261 hx (hb hby at_188) rfl (by decide) ?_
            refine own_iconst X261 hx (1 : Int32) (hb hby at_191) (by decide) rfl ?_
            refine own_goto X261 hx (hb hby at_192) (by decide) rfl ?_
            exact own_retNH X261 hx hZ hh261 HH254 hEL hlocks hret (by simp) (hb hby at_196) (by decide) (by decide) (by decide) ⟨rfl, N261⟩
          · rw [show own_isp ([(45 : Int32), (73 : Int32), c232, (70 : Int32)] : List Int32) = 0 from by simp [own_isp, hq248]]
            refine own_ifF X246 hx (hb hby at_133) rfl (by decide) ?_
            refine own_iconst X246 hx (1 : Int32) (hb hby at_136) (by decide) rfl ?_
            exact own_retNH X246 hx hZ rfl HH246 hEL hlocks hret (by simp) (hb hby at_137) (by decide) (by decide) (by decide) ⟨rfl, N246⟩
        · refine own_istore X143 hx #[.val (.int p1), .val (.int p2), .val (.int p3), .val (.int p4), .val (.int k), .val (.ref b131), .val (.int (3 : Int32)), .unset, .unset, .unset] (hb hby at_104) rfl rfl ?_
          refine own_aload X143 hx (hb hby at_106) rfl rfl rfl ?_
          refine own_iload X143 hx (hb hby at_108) rfl rfl ?_
          refine own_iloadN X143 hx (hb hby at_110) rfl rfl ?_
          refine own_sipush X143 hx (255 : Int32) (hb hby at_111) (by decide) rfl ?_
          refine own_iand X143 hx (hb hby at_114) rfl ?_
          refine own_i2c X143 hx (hb hby at_115) rfl ?_
          have hc262 := own_ch p3
          generalize ((p3 &&& (255 : Int32)).toUInt32.toUInt16.toUInt32.toInt32) = c262 at hc262 ⊢
          refine own_stC X143 hx hZ e143 V143 ⟨by decide, by decide⟩ 3 rfl (Nat.le_of_ble_eq_true rfl) (own_narC hc262) N143 g_b131 (hb hby at_116) rfl ?_
          intro T263 h263 X263 e263 W263 N263 V263
          have HH264 := HH144.wr W263 (Safe.arv hZ.alike V143 (by decide))
          have K265 := K145.wr W263 (Or.inr sz_b131)
          refine own_new X263 hx hZ hown (hw _ (List.mem_of_getElem? (i := 2) rfl)) (hw _ (List.mem_of_getElem? (i := 3) rfl)) (hw _ (List.mem_of_getElem? (i := 4) rfl)) e263 (hb hby at_117) (by decide) (by decide) rfl ?_
          intro T266 h266 b266 X266 e266 g266 E266 A266 D266
          have f267 := ((((((O0.ext E131).wr W134 g_b131).wr W137 g_b131).wr W140 g_b131).wr W143 g_b131).wr W263 g_b131)
          have g_b266 : n0 ≤ b266 := Nat.le_trans (own_oz f267) (Nat.le_of_eq g266.symm)
          have sz_b266 : h0.size ≤ b266 := Nat.le_trans K265.1 (Nat.le_of_eq g266.symm)
          have HH268 := HH264.ext E266
          have K269 := K265.ext E266
          have Y_b266 := own_sfN g266 E266 HH264
          have Fb266_coder : Fld Z h266 b266 "java/lang/String" "coder" "B" (.int (0 : Int32)) := D266 (Or.inr (hw _ (List.mem_of_getElem? (i := 28) rfl))) (ty := .byte) (by decide)
          have Fb266_value : Fld Z h266 b266 "java/lang/String" "value" "[B" .null := D266 (Or.inr (hw _ (List.mem_of_getElem? (i := 30) rfl))) (ty := (.array .byte)) (by decide)
          refine own_dup X266 hx (hb hby at_120) rfl rfl ?_
          refine own_aload X266 hx (hb hby at_121) rfl rfl rfl ?_
          have hp_b266 : ∀ c ∈ ([(45 : Int32), (73 : Int32), (78 : Int32), c262] : List Int32), ¬ c < 0 ∧ ¬ (255 : Int32) < c := (own_c2 (by decide) (own_c2 (by decide) (own_c2 (by decide) (own_c2 hc262 own_c0))))
          have f270 := (V263.ext E266)
          have f271 := (f267.ext E266)
          refine own_specialB X266 hx hZ (y := (⟨"java/lang/String", "<init>", "([C)V"⟩ : MethodName)) rfl hown (hw _ (List.mem_of_getElem? (i := 5) rfl)) (hw _ (List.mem_of_getElem? (i := 6) rfl)) (hw _ (List.mem_of_getElem? (i := 7) rfl)) (by decide) e266 (W := 1) (ce := 1) (sl := 4) (by decide) (by decide) [(.ref b131)] [(.ref b266)] (by rw [hml]; rfl) (a := b266) (StrChars.Road.QV Z b266 (4 : Int32) (([(45 : Int32), (73 : Int32), (78 : Int32), c262] : List Int32).map (fun c => c.toInt8.toInt32)) h266 n0) (StrChars.Road.backV (W := 1) hZ (own_hws hw) (kI := 4) (hw _ (List.mem_of_getElem? (i := 3) rfl)) (cs := ([(45 : Int32), (73 : Int32), (78 : Int32), c262] : List Int32)) (bs := (([(45 : Int32), (73 : Int32), (78 : Int32), c262] : List Int32).map (fun c => c.toInt8.toInt32))) (n := 4) g_b266 (own_oz f271) A266 Fb266_value Fb266_coder f270 (SC.ext f271.2) hzc rfl rfl (by decide) (by decide) hp_b266 rfl (by decide) (by decide)) own_pd1 rfl rfl rfl (hb hby at_123) rfl ?_
          intro v272 T272 L272 X272 hQ272
          obtain ⟨rfl, Nq272, Kq272, Es272, Cs272, t272, kb272, gt272, st272, nt272, Vs272, Ks272⟩ := hQ272
          have N272 := Fr.app N263 Nq272
          have HH273 := HH268.keep Kq272 (sfS Y_b266 sf0)
          have K274 := K269.trans Kq272 (allS (Or.inr sz_b266) all0)
          have co272 : StrChars.Road.CodA ([(45 : Int32), (73 : Int32), (78 : Int32), c262] : List Int32) 0 (4 : Int32) (((([(45 : Int32), (73 : Int32), (78 : Int32), c262] : List Int32).map (fun c => c.toInt8.toInt32))).map Value.int) := StrChars.Road.codOf (n := 4) rfl (fun c hc => (hp_b266 c hc).2)
          have hb272 := own_up hp_b266
          show own_Ends p e below _ (T272.setTop (mkF m 126 #[.val (.int p1), .val (.int p2), .val (.int p3), .val (.int p4), .val (.int k), .val (.ref b131), .val (.int (3 : Int32)), .unset, .unset, .unset] [(.ref b266)]))
          refine own_astore X272 hx #[.val (.int p1), .val (.int p2), .val (.int p3), .val (.int p4), .val (.int k), .val (.ref b131), .val (.ref b266), .unset, .unset, .unset] (hb hby at_126) rfl rfl rfl ?_
          refine own_aload X272 hx (hb hby at_128) rfl rfl rfl ?_
          have f275 := (f271.keep Kq272 (allS g_b266 all0))
          refine own_staticH X272 hx hZ (y := (⟨"com/example/pincio/pincio/core/CanonicalLiterals", "isSpecial", "(Ljava/lang/String;)Z"⟩ : MethodName)) hown (hw _ (List.mem_of_getElem? (i := 31) rfl)) (hw _ (List.mem_of_getElem? (i := 32) rfl)) (hw _ (List.mem_of_getElem? (i := 33) rfl)) (hw _ (List.mem_of_getElem? (i := 34) rfl)) (by decide) HH273 hEL rfl (by decide) (W := 0) (by decide) (by decide) (by decide) [(.ref b266)] [] (by rw [hml]; rfl) (own_isSpecial l Z a0 hw b266 ([(45 : Int32), (73 : Int32), (78 : Int32), c262] : List Int32) zc T272.heap n0 hEL f275 SC hzc ⟨_, _, _, _, _, Es272, Vs272, Cs272, Ks272, co272, hb272, (Nat.le_of_ble_eq_true rfl)⟩) own_pd2 rfl rfl rfl (hb hby at_130) rfl ?_
          intro v276 T276 L276 X276 hQ276 hZ hown HH276 A276
          obtain ⟨rfl, Nq276, Kq276⟩ := hQ276
          have N276 := Fr.app N272 Nq276
          have K277 := K274.trans Kq276 all0
          show own_Ends p e below _ (T276.setTop (mkF m 133 #[.val (.int p1), .val (.int p2), .val (.int p3), .val (.int p4), .val (.int k), .val (.ref b131), .val (.ref b266), .unset, .unset, .unset] [(.int (own_isp ([(45 : Int32), (73 : Int32), (78 : Int32), c262] : List Int32)))]))
          by_cases hq278 : c262 = (70 : Int32)
          · rw [show own_isp ([(45 : Int32), (73 : Int32), (78 : Int32), c262] : List Int32) = 1 from by subst hq278; decide]
            refine own_ifT X276 hx (hb hby at_133) (by decide) rfl (by decide) ?_
            refine own_aload X276 hx (hb hby at_138) rfl rfl rfl ?_
            have f279 := (f275.keep Kq276 all0)
            have f280 := (Es272.keep Kq276)
            have f281 := (Vs272.keep Kq276 nin0)
            have f282 := (Cs272.keep Kq276 nin0)
            have f283 := (Ks272.keep Kq276 nin0)
            refine own_staticH X276 hx hZ (y := (⟨"com/example/pincio/pincio/core/CanonicalLiterals", "special", "(Ljava/lang/String;)D"⟩ : MethodName)) hown (hw _ (List.mem_of_getElem? (i := 50) rfl)) (hw _ (List.mem_of_getElem? (i := 51) rfl)) (hw _ (List.mem_of_getElem? (i := 33) rfl)) (hw _ (List.mem_of_getElem? (i := 52) rfl)) (by decide) HH276 hEL rfl (by decide) (W := 0) (by decide) (by decide) (by decide) [(.ref b266)] [] (by rw [hml]; rfl) (own_special_ l Z a0 hw b266 ([(45 : Int32), (73 : Int32), (78 : Int32), c262] : List Int32) zc T276.heap n0 hEL f279 SC hzc ⟨_, _, _, _, _, f280, f281, f282, f283, co272, hb272, (Nat.le_of_ble_eq_true rfl)⟩) own_pd3 rfl rfl rfl (hb hby at_140) rfl ?_
            intro v284 T284 L284 X284 hQ284 hZ hown HH284 A284
            obtain ⟨rfl, Nq284, Kq284⟩ := hQ284
            have N284 := Fr.app N276 Nq284
            have K285 := K277.trans Kq284 all0
            rw [show own_spv ([(45 : Int32), (73 : Int32), (78 : Int32), c262] : List Int32) = (18442240474082181120 : UInt64) from by subst hq278; decide]
            show own_Ends p e below _ (T284.setTop (mkF m 143 #[.val (.int p1), .val (.int p2), .val (.int p3), .val (.int p4), .val (.int k), .val (.ref b131), .val (.ref b266), .unset, .unset, .unset] [(.double (18442240474082181120 : UInt64))]))
            refine own_dstore X284 hx #[.val (.int p1), .val (.int p2), .val (.int p3), .val (.int p4), .val (.int k), .val (.ref b131), .val (.ref b266), .val (.double (18442240474082181120 : UInt64)), .second, .unset] (hb hby at_143) rfl rfl ?_
            refine own_aload X284 hx (hb hby at_145) rfl rfl rfl ?_
            refine own_iconst X284 hx (0 : Int32) (hb hby at_147) (by decide) rfl ?_
            have f286 := (f280.keep Kq284)
            have f287 := (f281.keep Kq284 nin0)
            have f288 := (f282.keep Kq284 nin0)
            have f289 := (f283.keep Kq284 nin0)
            have f290 := (f279.keep Kq284 all0)
            refine own_virtualB X284 hx hZ (y := (⟨"java/lang/String", "charAt", "(I)C"⟩ : MethodName)) (z := (⟨"java/lang/String", "charAt", "(I)C"⟩ : MethodName)) hown (hw _ (List.mem_of_getElem? (i := 54) rfl)) (hw _ (List.mem_of_getElem? (i := 55) rfl)) (notFace_of_selects (args := #[]) (mvT hZ (hw _ (List.mem_of_getElem? (i := 57) rfl)))) (hw _ (List.mem_of_getElem? (i := 57) rfl)) (hw _ (List.mem_of_getElem? (i := 56) rfl)) (by decide) rfl (W := 0) (ce := 0) (sl := 0) (by decide) (by decide) [(.int (0 : Int32))] [] (by rw [hml]; rfl) f286 (fun v h' L => v = some (.int (([(45 : Int32), (73 : Int32), (78 : Int32), c262] : List Int32).getD 0 0)) ∧ L = [] ∧ h' = T284.heap) (StrChars.Road.chN (W := 0) hZ (own_hch hw) (kI := 4) (hw _ (List.mem_of_getElem? (i := 3) rfl)) f286 f287 f288 f289 co272 hb272 (SC.ext f290.2) hzc (SF.ext f290.2) rfm (Nat.le_of_ble_eq_true rfl) (i := 0) (Nat.le_of_ble_eq_true rfl) (j := 0) rfl (by decide) (by decide)) own_pd4 rfl rfl rfl (hb hby at_148) rfl ?_
            intro v291 T291 L291 X291 hQ291
            obtain ⟨rfl, rfl, hh291⟩ := hQ291
            have N291 := Fr.app N284 (Fr.nil n0)
            show own_Ends p e below _ (T291.setTop (mkF m 151 #[.val (.int p1), .val (.int p2), .val (.int p3), .val (.int p4), .val (.int k), .val (.ref b131), .val (.ref b266), .val (.double (18442240474082181120 : UInt64)), .second, .unset] [(.int (45 : Int32))]))
            refine own_istore X291 hx #[.val (.int p1), .val (.int p2), .val (.int p3), .val (.int p4), .val (.int k), .val (.ref b131), .val (.ref b266), .val (.double (18442240474082181120 : UInt64)), .second, .val (.int (45 : Int32))] (hb hby at_151) rfl rfl ?_
            refine own_iload X291 hx (hb hby at_153) rfl rfl ?_
            refine own_bipush X291 hx (73 : Int32) (hb hby at_155) (by decide) rfl ?_
            refine own_icmpT X291 hx (hb hby at_157) (by decide) rfl (by decide) ?_
            refine own_iload X291 hx (hb hby at_175) rfl rfl ?_
            refine own_bipush X291 hx (45 : Int32) (hb hby at_177) (by decide) rfl ?_
            refine own_icmpF X291 hx (hb hby at_179) rfl (by decide) ?_
            refine own_dload X291 hx (hb hby at_182) rfl rfl ?_
            refine own_ldcDouble X291 hx hZ hown (hw _ (List.mem_of_getElem? (i := 77) rfl)) (hb hby at_184) rfl ?_
            refine own_dcmp X291 hx (0 : Int32) (hb hby at_187) (by decide +kernel) rfl ?_
            refine own_ifF X291 hx (hb hby at_188) rfl (by decide) ?_
            refine own_iconst X291 hx (1 : Int32) (hb hby at_191) (by decide) rfl ?_
            refine own_goto X291 hx (hb hby at_192) (by decide) rfl ?_
            exact own_retNH X291 hx hZ hh291 HH284 hEL hlocks hret (by simp) (hb hby at_196) (by decide) (by decide) (by decide) ⟨rfl, N291⟩
          · rw [show own_isp ([(45 : Int32), (73 : Int32), (78 : Int32), c262] : List Int32) = 0 from by simp [own_isp, hq278]]
            refine own_ifF X276 hx (hb hby at_133) rfl (by decide) ?_
            refine own_iconst X276 hx (1 : Int32) (hb hby at_136) (by decide) rfl ?_
            exact own_retNH X276 hx hZ rfl HH276 hEL hlocks hret (by simp) (hb hby at_137) (by decide) (by decide) (by decide) ⟨rfl, N276⟩
  · refine own_iconst X0 hx (3 : Int32) (hb hby at_13) (by decide) rfl ?_
    refine own_newP X0 hx hZ (aty := .char) (hw _ (List.mem_of_getElem? (i := 1) rfl)) e0 (hb hby at_14) (by decide) 3 (by decide) (by decide) (by decide) (by decide) rfl ?_
    intro T292 h292 b292 k292 X292 e292 g292 E292 V292q
    have g_b292 : n0 ≤ b292 := Nat.le_trans (own_oz O0) (Nat.le_of_eq g292.symm)
    have sz_b292 : h0.size ≤ b292 := Nat.le_trans K0.1 (Nat.le_of_eq g292.symm)
    have HH293 := HH0.ext E292
    have K294 := K0.ext E292
    have V292 : Arv Z h292 b292 k292 .char (3 : Int32) [(.int (0 : Int32)), (.int (0 : Int32)), (.int (0 : Int32))] (.int (0 : Int32)) := Arv.pad V292q (pad_rep [] (.int (0 : Int32)) 3)
    refine own_dup X292 hx (hb hby at_16) rfl rfl ?_
    refine own_iconst X292 hx (0 : Int32) (hb hby at_17) (by decide) rfl ?_
    refine own_bipush X292 hx (73 : Int32) (hb hby at_18) (by decide) rfl ?_
    refine own_stC X292 hx hZ e292 V292 ⟨by decide, by decide⟩ 0 rfl (Nat.le_of_ble_eq_true rfl) (by decide) N0 g_b292 (hb hby at_20) rfl ?_
    intro T295 h295 X295 e295 W295 N295 V295
    have HH296 := HH293.wr W295 (Safe.arv hZ.alike V292 (by decide))
    have K297 := K294.wr W295 (Or.inr sz_b292)
    refine own_dup X295 hx (hb hby at_21) rfl rfl ?_
    refine own_iconst X295 hx (1 : Int32) (hb hby at_22) (by decide) rfl ?_
    refine own_bipush X295 hx (78 : Int32) (hb hby at_23) (by decide) rfl ?_
    refine own_stC X295 hx hZ e295 V295 ⟨by decide, by decide⟩ 1 rfl (Nat.le_of_ble_eq_true rfl) (by decide) N295 g_b292 (hb hby at_25) rfl ?_
    intro T298 h298 X298 e298 W298 N298 V298
    have HH299 := HH296.wr W298 (Safe.arv hZ.alike V295 (by decide))
    have K300 := K297.wr W298 (Or.inr sz_b292)
    refine own_dup X298 hx (hb hby at_26) rfl rfl ?_
    refine own_iconst X298 hx (2 : Int32) (hb hby at_27) (by decide) rfl ?_
    refine own_bipush X298 hx (70 : Int32) (hb hby at_28) (by decide) rfl ?_
    refine own_stC X298 hx hZ e298 V298 ⟨by decide, by decide⟩ 2 rfl (Nat.le_of_ble_eq_true rfl) (by decide) N298 g_b292 (hb hby at_30) rfl ?_
    intro T301 h301 X301 e301 W301 N301 V301
    have HH302 := HH299.wr W301 (Safe.arv hZ.alike V298 (by decide))
    have K303 := K300.wr W301 (Or.inr sz_b292)
    refine own_astore X301 hx #[.val (.int p1), .val (.int p2), .val (.int p3), .val (.int p4), .val (.int k), .val (.ref b292), .unset, .unset, .unset, .unset] (hb hby at_31) rfl rfl rfl ?_
    refine own_goto X301 hx (hb hby at_33) (by decide) rfl ?_
    refine own_iloadN X301 hx (hb hby at_90) rfl rfl ?_
    refine own_iconst X301 hx (1 : Int32) (hb hby at_91) (by decide) rfl ?_
    refine own_iand X301 hx (hb hby at_92) rfl ?_
    refine own_if_eq X301 hx (hb hby at_93) (by decide) rfl rfl (fun hc93_304 => ?_) (fun hc93_304 => ?_)
    · refine own_new X301 hx hZ hown (hw _ (List.mem_of_getElem? (i := 2) rfl)) (hw _ (List.mem_of_getElem? (i := 3) rfl)) (hw _ (List.mem_of_getElem? (i := 4) rfl)) e301 (hb hby at_117) (by decide) (by decide) rfl ?_
      intro T305 h305 b305 X305 e305 g305 E305 A305 D305
      have f306 := ((((O0.ext E292).wr W295 g_b292).wr W298 g_b292).wr W301 g_b292)
      have g_b305 : n0 ≤ b305 := Nat.le_trans (own_oz f306) (Nat.le_of_eq g305.symm)
      have sz_b305 : h0.size ≤ b305 := Nat.le_trans K303.1 (Nat.le_of_eq g305.symm)
      have HH307 := HH302.ext E305
      have K308 := K303.ext E305
      have Y_b305 := own_sfN g305 E305 HH302
      have Fb305_coder : Fld Z h305 b305 "java/lang/String" "coder" "B" (.int (0 : Int32)) := D305 (Or.inr (hw _ (List.mem_of_getElem? (i := 28) rfl))) (ty := .byte) (by decide)
      have Fb305_value : Fld Z h305 b305 "java/lang/String" "value" "[B" .null := D305 (Or.inr (hw _ (List.mem_of_getElem? (i := 30) rfl))) (ty := (.array .byte)) (by decide)
      refine own_dup X305 hx (hb hby at_120) rfl rfl ?_
      refine own_aload X305 hx (hb hby at_121) rfl rfl rfl ?_
      have hp_b305 : ∀ c ∈ ([(73 : Int32), (78 : Int32), (70 : Int32)] : List Int32), ¬ c < 0 ∧ ¬ (255 : Int32) < c := (own_c2 (by decide) (own_c2 (by decide) (own_c2 (by decide) own_c0)))
      have f309 := (V301.ext E305)
      have f310 := (f306.ext E305)
      refine own_specialB X305 hx hZ (y := (⟨"java/lang/String", "<init>", "([C)V"⟩ : MethodName)) rfl hown (hw _ (List.mem_of_getElem? (i := 5) rfl)) (hw _ (List.mem_of_getElem? (i := 6) rfl)) (hw _ (List.mem_of_getElem? (i := 7) rfl)) (by decide) e305 (W := 1) (ce := 1) (sl := 3) (by decide) (by decide) [(.ref b292)] [(.ref b305)] (by rw [hml]; rfl) (a := b305) (StrChars.Road.QV Z b305 (3 : Int32) (([(73 : Int32), (78 : Int32), (70 : Int32)] : List Int32).map (fun c => c.toInt8.toInt32)) h305 n0) (StrChars.Road.backV (W := 1) hZ (own_hws hw) (kI := 4) (hw _ (List.mem_of_getElem? (i := 3) rfl)) (cs := ([(73 : Int32), (78 : Int32), (70 : Int32)] : List Int32)) (bs := (([(73 : Int32), (78 : Int32), (70 : Int32)] : List Int32).map (fun c => c.toInt8.toInt32))) (n := 3) g_b305 (own_oz f310) A305 Fb305_value Fb305_coder f309 (SC.ext f310.2) hzc rfl rfl (by decide) (by decide) hp_b305 rfl (by decide) (by decide)) own_pd1 rfl rfl rfl (hb hby at_123) rfl ?_
      intro v311 T311 L311 X311 hQ311
      obtain ⟨rfl, Nq311, Kq311, Es311, Cs311, t311, kb311, gt311, st311, nt311, Vs311, Ks311⟩ := hQ311
      have N311 := Fr.app N301 Nq311
      have HH312 := HH307.keep Kq311 (sfS Y_b305 sf0)
      have K313 := K308.trans Kq311 (allS (Or.inr sz_b305) all0)
      have co311 : StrChars.Road.CodA ([(73 : Int32), (78 : Int32), (70 : Int32)] : List Int32) 0 (3 : Int32) (((([(73 : Int32), (78 : Int32), (70 : Int32)] : List Int32).map (fun c => c.toInt8.toInt32))).map Value.int) := StrChars.Road.codOf (n := 3) rfl (fun c hc => (hp_b305 c hc).2)
      have hb311 := own_up hp_b305
      show own_Ends p e below _ (T311.setTop (mkF m 126 #[.val (.int p1), .val (.int p2), .val (.int p3), .val (.int p4), .val (.int k), .val (.ref b292), .unset, .unset, .unset, .unset] [(.ref b305)]))
      refine own_astore X311 hx #[.val (.int p1), .val (.int p2), .val (.int p3), .val (.int p4), .val (.int k), .val (.ref b292), .val (.ref b305), .unset, .unset, .unset] (hb hby at_126) rfl rfl rfl ?_
      refine own_aload X311 hx (hb hby at_128) rfl rfl rfl ?_
      have f314 := (f310.keep Kq311 (allS g_b305 all0))
      refine own_staticH X311 hx hZ (y := (⟨"com/example/pincio/pincio/core/CanonicalLiterals", "isSpecial", "(Ljava/lang/String;)Z"⟩ : MethodName)) hown (hw _ (List.mem_of_getElem? (i := 31) rfl)) (hw _ (List.mem_of_getElem? (i := 32) rfl)) (hw _ (List.mem_of_getElem? (i := 33) rfl)) (hw _ (List.mem_of_getElem? (i := 34) rfl)) (by decide) HH312 hEL rfl (by decide) (W := 0) (by decide) (by decide) (by decide) [(.ref b305)] [] (by rw [hml]; rfl) (own_isSpecial l Z a0 hw b305 ([(73 : Int32), (78 : Int32), (70 : Int32)] : List Int32) zc T311.heap n0 hEL f314 SC hzc ⟨_, _, _, _, _, Es311, Vs311, Cs311, Ks311, co311, hb311, (Nat.le_of_ble_eq_true rfl)⟩) own_pd2 rfl rfl rfl (hb hby at_130) rfl ?_
      intro v315 T315 L315 X315 hQ315 hZ hown HH315 A315
      obtain ⟨rfl, Nq315, Kq315⟩ := hQ315
      have N315 := Fr.app N311 Nq315
      have K316 := K313.trans Kq315 all0
      show own_Ends p e below _ (T315.setTop (mkF m 133 #[.val (.int p1), .val (.int p2), .val (.int p3), .val (.int p4), .val (.int k), .val (.ref b292), .val (.ref b305), .unset, .unset, .unset] [(.int (own_isp ([(73 : Int32), (78 : Int32), (70 : Int32)] : List Int32)))]))
      rw [show own_isp ([(73 : Int32), (78 : Int32), (70 : Int32)] : List Int32) = 1 from by decide]
      refine own_ifT X315 hx (hb hby at_133) (by decide) rfl (by decide) ?_
      refine own_aload X315 hx (hb hby at_138) rfl rfl rfl ?_
      have f317 := (f314.keep Kq315 all0)
      have f318 := (Es311.keep Kq315)
      have f319 := (Vs311.keep Kq315 nin0)
      have f320 := (Cs311.keep Kq315 nin0)
      have f321 := (Ks311.keep Kq315 nin0)
      refine own_staticH X315 hx hZ (y := (⟨"com/example/pincio/pincio/core/CanonicalLiterals", "special", "(Ljava/lang/String;)D"⟩ : MethodName)) hown (hw _ (List.mem_of_getElem? (i := 50) rfl)) (hw _ (List.mem_of_getElem? (i := 51) rfl)) (hw _ (List.mem_of_getElem? (i := 33) rfl)) (hw _ (List.mem_of_getElem? (i := 52) rfl)) (by decide) HH315 hEL rfl (by decide) (W := 0) (by decide) (by decide) (by decide) [(.ref b305)] [] (by rw [hml]; rfl) (own_special_ l Z a0 hw b305 ([(73 : Int32), (78 : Int32), (70 : Int32)] : List Int32) zc T315.heap n0 hEL f317 SC hzc ⟨_, _, _, _, _, f318, f319, f320, f321, co311, hb311, (Nat.le_of_ble_eq_true rfl)⟩) own_pd3 rfl rfl rfl (hb hby at_140) rfl ?_
      intro v322 T322 L322 X322 hQ322 hZ hown HH322 A322
      obtain ⟨rfl, Nq322, Kq322⟩ := hQ322
      have N322 := Fr.app N315 Nq322
      have K323 := K316.trans Kq322 all0
      rw [show own_spv ([(73 : Int32), (78 : Int32), (70 : Int32)] : List Int32) = (9218868437227405312 : UInt64) from by decide]
      show own_Ends p e below _ (T322.setTop (mkF m 143 #[.val (.int p1), .val (.int p2), .val (.int p3), .val (.int p4), .val (.int k), .val (.ref b292), .val (.ref b305), .unset, .unset, .unset] [(.double (9218868437227405312 : UInt64))]))
      refine own_dstore X322 hx #[.val (.int p1), .val (.int p2), .val (.int p3), .val (.int p4), .val (.int k), .val (.ref b292), .val (.ref b305), .val (.double (9218868437227405312 : UInt64)), .second, .unset] (hb hby at_143) rfl rfl ?_
      refine own_aload X322 hx (hb hby at_145) rfl rfl rfl ?_
      refine own_iconst X322 hx (0 : Int32) (hb hby at_147) (by decide) rfl ?_
      have f324 := (f318.keep Kq322)
      have f325 := (f319.keep Kq322 nin0)
      have f326 := (f320.keep Kq322 nin0)
      have f327 := (f321.keep Kq322 nin0)
      have f328 := (f317.keep Kq322 all0)
      refine own_virtualB X322 hx hZ (y := (⟨"java/lang/String", "charAt", "(I)C"⟩ : MethodName)) (z := (⟨"java/lang/String", "charAt", "(I)C"⟩ : MethodName)) hown (hw _ (List.mem_of_getElem? (i := 54) rfl)) (hw _ (List.mem_of_getElem? (i := 55) rfl)) (notFace_of_selects (args := #[]) (mvT hZ (hw _ (List.mem_of_getElem? (i := 57) rfl)))) (hw _ (List.mem_of_getElem? (i := 57) rfl)) (hw _ (List.mem_of_getElem? (i := 56) rfl)) (by decide) rfl (W := 0) (ce := 0) (sl := 0) (by decide) (by decide) [(.int (0 : Int32))] [] (by rw [hml]; rfl) f324 (fun v h' L => v = some (.int (([(73 : Int32), (78 : Int32), (70 : Int32)] : List Int32).getD 0 0)) ∧ L = [] ∧ h' = T322.heap) (StrChars.Road.chN (W := 0) hZ (own_hch hw) (kI := 4) (hw _ (List.mem_of_getElem? (i := 3) rfl)) f324 f325 f326 f327 co311 hb311 (SC.ext f328.2) hzc (SF.ext f328.2) rfm (Nat.le_of_ble_eq_true rfl) (i := 0) (Nat.le_of_ble_eq_true rfl) (j := 0) rfl (by decide) (by decide)) own_pd4 rfl rfl rfl (hb hby at_148) rfl ?_
      intro v329 T329 L329 X329 hQ329
      obtain ⟨rfl, rfl, hh329⟩ := hQ329
      have N329 := Fr.app N322 (Fr.nil n0)
      show own_Ends p e below _ (T329.setTop (mkF m 151 #[.val (.int p1), .val (.int p2), .val (.int p3), .val (.int p4), .val (.int k), .val (.ref b292), .val (.ref b305), .val (.double (9218868437227405312 : UInt64)), .second, .unset] [(.int (73 : Int32))]))
      refine own_istore X329 hx #[.val (.int p1), .val (.int p2), .val (.int p3), .val (.int p4), .val (.int k), .val (.ref b292), .val (.ref b305), .val (.double (9218868437227405312 : UInt64)), .second, .val (.int (73 : Int32))] (hb hby at_151) rfl rfl ?_
      refine own_iload X329 hx (hb hby at_153) rfl rfl ?_
      refine own_bipush X329 hx (73 : Int32) (hb hby at_155) (by decide) rfl ?_
      refine own_icmpF X329 hx (hb hby at_157) rfl (by decide) ?_
      refine own_dload X329 hx (hb hby at_160) rfl rfl ?_
      refine own_ldcDouble X329 hx hZ hown (hw _ (List.mem_of_getElem? (i := 75) rfl)) (hb hby at_162) rfl ?_
      refine own_dcmp X329 hx (0 : Int32) (hb hby at_165) (by decide +kernel) rfl ?_
      refine own_ifF X329 hx (hb hby at_166) rfl (by decide) ?_
      refine own_iconst X329 hx (1 : Int32) (hb hby at_169) (by decide) rfl ?_
      refine own_goto X329 hx (hb hby at_170) (by decide) rfl ?_
      exact own_retNH X329 hx hZ hh329 HH322 hEL hlocks hret (by simp) (hb hby at_174) (by decide) (by decide) (by decide) ⟨rfl, N329⟩
    · refine own_iloadN X301 hx (hb hby at_96) rfl rfl ?_
      refine own_ldcInt X301 hx hZ hown (hw _ (List.mem_of_getElem? (i := 0) rfl)) (hb hby at_97) rfl ?_
      refine own_iand X301 hx (hb hby at_99) rfl ?_
      refine own_aload X301 hx (hb hby at_100) rfl rfl rfl ?_
      refine own_arraylength X301 hx hZ e301 V301 (hb hby at_102) rfl ?_
      refine own_irem X301 hx (hb hby at_103) (by decide) rfl ?_
      have hi := own_rem3 p2
      generalize ((p2 &&& (2147483647 : Int32)) % (3 : Int32)) = i at hi ⊢
      rcases hi with rfl | rfl | rfl
      · refine own_istore X301 hx #[.val (.int p1), .val (.int p2), .val (.int p3), .val (.int p4), .val (.int k), .val (.ref b292), .val (.int (0 : Int32)), .unset, .unset, .unset] (hb hby at_104) rfl rfl ?_
        refine own_aload X301 hx (hb hby at_106) rfl rfl rfl ?_
        refine own_iload X301 hx (hb hby at_108) rfl rfl ?_
        refine own_iloadN X301 hx (hb hby at_110) rfl rfl ?_
        refine own_sipush X301 hx (255 : Int32) (hb hby at_111) (by decide) rfl ?_
        refine own_iand X301 hx (hb hby at_114) rfl ?_
        refine own_i2c X301 hx (hb hby at_115) rfl ?_
        have hc330 := own_ch p3
        generalize ((p3 &&& (255 : Int32)).toUInt32.toUInt16.toUInt32.toInt32) = c330 at hc330 ⊢
        refine own_stC X301 hx hZ e301 V301 ⟨by decide, by decide⟩ 0 rfl (Nat.le_of_ble_eq_true rfl) (own_narC hc330) N301 g_b292 (hb hby at_116) rfl ?_
        intro T331 h331 X331 e331 W331 N331 V331
        have HH332 := HH302.wr W331 (Safe.arv hZ.alike V301 (by decide))
        have K333 := K303.wr W331 (Or.inr sz_b292)
        refine own_new X331 hx hZ hown (hw _ (List.mem_of_getElem? (i := 2) rfl)) (hw _ (List.mem_of_getElem? (i := 3) rfl)) (hw _ (List.mem_of_getElem? (i := 4) rfl)) e331 (hb hby at_117) (by decide) (by decide) rfl ?_
        intro T334 h334 b334 X334 e334 g334 E334 A334 D334
        have f335 := (((((O0.ext E292).wr W295 g_b292).wr W298 g_b292).wr W301 g_b292).wr W331 g_b292)
        have g_b334 : n0 ≤ b334 := Nat.le_trans (own_oz f335) (Nat.le_of_eq g334.symm)
        have sz_b334 : h0.size ≤ b334 := Nat.le_trans K333.1 (Nat.le_of_eq g334.symm)
        have HH336 := HH332.ext E334
        have K337 := K333.ext E334
        have Y_b334 := own_sfN g334 E334 HH332
        have Fb334_coder : Fld Z h334 b334 "java/lang/String" "coder" "B" (.int (0 : Int32)) := D334 (Or.inr (hw _ (List.mem_of_getElem? (i := 28) rfl))) (ty := .byte) (by decide)
        have Fb334_value : Fld Z h334 b334 "java/lang/String" "value" "[B" .null := D334 (Or.inr (hw _ (List.mem_of_getElem? (i := 30) rfl))) (ty := (.array .byte)) (by decide)
        refine own_dup X334 hx (hb hby at_120) rfl rfl ?_
        refine own_aload X334 hx (hb hby at_121) rfl rfl rfl ?_
        have hp_b334 : ∀ c ∈ ([c330, (78 : Int32), (70 : Int32)] : List Int32), ¬ c < 0 ∧ ¬ (255 : Int32) < c := (own_c2 hc330 (own_c2 (by decide) (own_c2 (by decide) own_c0)))
        have f338 := (V331.ext E334)
        have f339 := (f335.ext E334)
        refine own_specialB X334 hx hZ (y := (⟨"java/lang/String", "<init>", "([C)V"⟩ : MethodName)) rfl hown (hw _ (List.mem_of_getElem? (i := 5) rfl)) (hw _ (List.mem_of_getElem? (i := 6) rfl)) (hw _ (List.mem_of_getElem? (i := 7) rfl)) (by decide) e334 (W := 1) (ce := 1) (sl := 3) (by decide) (by decide) [(.ref b292)] [(.ref b334)] (by rw [hml]; rfl) (a := b334) (StrChars.Road.QV Z b334 (3 : Int32) (([c330, (78 : Int32), (70 : Int32)] : List Int32).map (fun c => c.toInt8.toInt32)) h334 n0) (StrChars.Road.backV (W := 1) hZ (own_hws hw) (kI := 4) (hw _ (List.mem_of_getElem? (i := 3) rfl)) (cs := ([c330, (78 : Int32), (70 : Int32)] : List Int32)) (bs := (([c330, (78 : Int32), (70 : Int32)] : List Int32).map (fun c => c.toInt8.toInt32))) (n := 3) g_b334 (own_oz f339) A334 Fb334_value Fb334_coder f338 (SC.ext f339.2) hzc rfl rfl (by decide) (by decide) hp_b334 rfl (by decide) (by decide)) own_pd1 rfl rfl rfl (hb hby at_123) rfl ?_
        intro v340 T340 L340 X340 hQ340
        obtain ⟨rfl, Nq340, Kq340, Es340, Cs340, t340, kb340, gt340, st340, nt340, Vs340, Ks340⟩ := hQ340
        have N340 := Fr.app N331 Nq340
        have HH341 := HH336.keep Kq340 (sfS Y_b334 sf0)
        have K342 := K337.trans Kq340 (allS (Or.inr sz_b334) all0)
        have co340 : StrChars.Road.CodA ([c330, (78 : Int32), (70 : Int32)] : List Int32) 0 (3 : Int32) (((([c330, (78 : Int32), (70 : Int32)] : List Int32).map (fun c => c.toInt8.toInt32))).map Value.int) := StrChars.Road.codOf (n := 3) rfl (fun c hc => (hp_b334 c hc).2)
        have hb340 := own_up hp_b334
        show own_Ends p e below _ (T340.setTop (mkF m 126 #[.val (.int p1), .val (.int p2), .val (.int p3), .val (.int p4), .val (.int k), .val (.ref b292), .val (.int (0 : Int32)), .unset, .unset, .unset] [(.ref b334)]))
        refine own_astore X340 hx #[.val (.int p1), .val (.int p2), .val (.int p3), .val (.int p4), .val (.int k), .val (.ref b292), .val (.ref b334), .unset, .unset, .unset] (hb hby at_126) rfl rfl rfl ?_
        refine own_aload X340 hx (hb hby at_128) rfl rfl rfl ?_
        have f343 := (f339.keep Kq340 (allS g_b334 all0))
        refine own_staticH X340 hx hZ (y := (⟨"com/example/pincio/pincio/core/CanonicalLiterals", "isSpecial", "(Ljava/lang/String;)Z"⟩ : MethodName)) hown (hw _ (List.mem_of_getElem? (i := 31) rfl)) (hw _ (List.mem_of_getElem? (i := 32) rfl)) (hw _ (List.mem_of_getElem? (i := 33) rfl)) (hw _ (List.mem_of_getElem? (i := 34) rfl)) (by decide) HH341 hEL rfl (by decide) (W := 0) (by decide) (by decide) (by decide) [(.ref b334)] [] (by rw [hml]; rfl) (own_isSpecial l Z a0 hw b334 ([c330, (78 : Int32), (70 : Int32)] : List Int32) zc T340.heap n0 hEL f343 SC hzc ⟨_, _, _, _, _, Es340, Vs340, Cs340, Ks340, co340, hb340, (Nat.le_of_ble_eq_true rfl)⟩) own_pd2 rfl rfl rfl (hb hby at_130) rfl ?_
        intro v344 T344 L344 X344 hQ344 hZ hown HH344 A344
        obtain ⟨rfl, Nq344, Kq344⟩ := hQ344
        have N344 := Fr.app N340 Nq344
        have K345 := K342.trans Kq344 all0
        show own_Ends p e below _ (T344.setTop (mkF m 133 #[.val (.int p1), .val (.int p2), .val (.int p3), .val (.int p4), .val (.int k), .val (.ref b292), .val (.ref b334), .unset, .unset, .unset] [(.int (own_isp ([c330, (78 : Int32), (70 : Int32)] : List Int32)))]))
        by_cases hq346 : c330 = (73 : Int32)
        · rw [show own_isp ([c330, (78 : Int32), (70 : Int32)] : List Int32) = 1 from by subst hq346; decide]
          refine own_ifT X344 hx (hb hby at_133) (by decide) rfl (by decide) ?_
          refine own_aload X344 hx (hb hby at_138) rfl rfl rfl ?_
          have f347 := (f343.keep Kq344 all0)
          have f348 := (Es340.keep Kq344)
          have f349 := (Vs340.keep Kq344 nin0)
          have f350 := (Cs340.keep Kq344 nin0)
          have f351 := (Ks340.keep Kq344 nin0)
          refine own_staticH X344 hx hZ (y := (⟨"com/example/pincio/pincio/core/CanonicalLiterals", "special", "(Ljava/lang/String;)D"⟩ : MethodName)) hown (hw _ (List.mem_of_getElem? (i := 50) rfl)) (hw _ (List.mem_of_getElem? (i := 51) rfl)) (hw _ (List.mem_of_getElem? (i := 33) rfl)) (hw _ (List.mem_of_getElem? (i := 52) rfl)) (by decide) HH344 hEL rfl (by decide) (W := 0) (by decide) (by decide) (by decide) [(.ref b334)] [] (by rw [hml]; rfl) (own_special_ l Z a0 hw b334 ([c330, (78 : Int32), (70 : Int32)] : List Int32) zc T344.heap n0 hEL f347 SC hzc ⟨_, _, _, _, _, f348, f349, f350, f351, co340, hb340, (Nat.le_of_ble_eq_true rfl)⟩) own_pd3 rfl rfl rfl (hb hby at_140) rfl ?_
          intro v352 T352 L352 X352 hQ352 hZ hown HH352 A352
          obtain ⟨rfl, Nq352, Kq352⟩ := hQ352
          have N352 := Fr.app N344 Nq352
          have K353 := K345.trans Kq352 all0
          rw [show own_spv ([c330, (78 : Int32), (70 : Int32)] : List Int32) = (9218868437227405312 : UInt64) from by subst hq346; decide]
          show own_Ends p e below _ (T352.setTop (mkF m 143 #[.val (.int p1), .val (.int p2), .val (.int p3), .val (.int p4), .val (.int k), .val (.ref b292), .val (.ref b334), .unset, .unset, .unset] [(.double (9218868437227405312 : UInt64))]))
          refine own_dstore X352 hx #[.val (.int p1), .val (.int p2), .val (.int p3), .val (.int p4), .val (.int k), .val (.ref b292), .val (.ref b334), .val (.double (9218868437227405312 : UInt64)), .second, .unset] (hb hby at_143) rfl rfl ?_
          refine own_aload X352 hx (hb hby at_145) rfl rfl rfl ?_
          refine own_iconst X352 hx (0 : Int32) (hb hby at_147) (by decide) rfl ?_
          have f354 := (f348.keep Kq352)
          have f355 := (f349.keep Kq352 nin0)
          have f356 := (f350.keep Kq352 nin0)
          have f357 := (f351.keep Kq352 nin0)
          have f358 := (f347.keep Kq352 all0)
          refine own_virtualB X352 hx hZ (y := (⟨"java/lang/String", "charAt", "(I)C"⟩ : MethodName)) (z := (⟨"java/lang/String", "charAt", "(I)C"⟩ : MethodName)) hown (hw _ (List.mem_of_getElem? (i := 54) rfl)) (hw _ (List.mem_of_getElem? (i := 55) rfl)) (notFace_of_selects (args := #[]) (mvT hZ (hw _ (List.mem_of_getElem? (i := 57) rfl)))) (hw _ (List.mem_of_getElem? (i := 57) rfl)) (hw _ (List.mem_of_getElem? (i := 56) rfl)) (by decide) rfl (W := 0) (ce := 0) (sl := 0) (by decide) (by decide) [(.int (0 : Int32))] [] (by rw [hml]; rfl) f354 (fun v h' L => v = some (.int (([c330, (78 : Int32), (70 : Int32)] : List Int32).getD 0 0)) ∧ L = [] ∧ h' = T352.heap) (StrChars.Road.chN (W := 0) hZ (own_hch hw) (kI := 4) (hw _ (List.mem_of_getElem? (i := 3) rfl)) f354 f355 f356 f357 co340 hb340 (SC.ext f358.2) hzc (SF.ext f358.2) rfm (Nat.le_of_ble_eq_true rfl) (i := 0) (Nat.le_of_ble_eq_true rfl) (j := 0) rfl (by decide) (by decide)) own_pd4 rfl rfl rfl (hb hby at_148) rfl ?_
          intro v359 T359 L359 X359 hQ359
          obtain ⟨rfl, rfl, hh359⟩ := hQ359
          have N359 := Fr.app N352 (Fr.nil n0)
          show own_Ends p e below _ (T359.setTop (mkF m 151 #[.val (.int p1), .val (.int p2), .val (.int p3), .val (.int p4), .val (.int k), .val (.ref b292), .val (.ref b334), .val (.double (9218868437227405312 : UInt64)), .second, .unset] [(.int c330)]))
          refine own_istore X359 hx #[.val (.int p1), .val (.int p2), .val (.int p3), .val (.int p4), .val (.int k), .val (.ref b292), .val (.ref b334), .val (.double (9218868437227405312 : UInt64)), .second, .val (.int c330)] (hb hby at_151) rfl rfl ?_
          refine own_iload X359 hx (hb hby at_153) rfl rfl ?_
          refine own_bipush X359 hx (73 : Int32) (hb hby at_155) (by decide) rfl ?_
          refine own_icmpF X359 hx (hb hby at_157) rfl (by rw [hq346]; decide) ?_
          refine own_dload X359 hx (hb hby at_160) rfl rfl ?_
          refine own_ldcDouble X359 hx hZ hown (hw _ (List.mem_of_getElem? (i := 75) rfl)) (hb hby at_162) rfl ?_
          refine own_dcmp X359 hx (0 : Int32) (hb hby at_165) (by decide +kernel) rfl ?_
          refine own_ifF X359 hx (hb hby at_166) rfl (by decide) ?_
          refine own_iconst X359 hx (1 : Int32) (hb hby at_169) (by decide) rfl ?_
          refine own_goto X359 hx (hb hby at_170) (by decide) rfl ?_
          exact own_retNH X359 hx hZ hh359 HH352 hEL hlocks hret (by simp) (hb hby at_174) (by decide) (by decide) (by decide) ⟨rfl, N359⟩
        · rw [show own_isp ([c330, (78 : Int32), (70 : Int32)] : List Int32) = 0 from by simp [own_isp, hq346]]
          refine own_ifF X344 hx (hb hby at_133) rfl (by decide) ?_
          refine own_iconst X344 hx (1 : Int32) (hb hby at_136) (by decide) rfl ?_
          exact own_retNH X344 hx hZ rfl HH344 hEL hlocks hret (by simp) (hb hby at_137) (by decide) (by decide) (by decide) ⟨rfl, N344⟩
      · refine own_istore X301 hx #[.val (.int p1), .val (.int p2), .val (.int p3), .val (.int p4), .val (.int k), .val (.ref b292), .val (.int (1 : Int32)), .unset, .unset, .unset] (hb hby at_104) rfl rfl ?_
        refine own_aload X301 hx (hb hby at_106) rfl rfl rfl ?_
        refine own_iload X301 hx (hb hby at_108) rfl rfl ?_
        refine own_iloadN X301 hx (hb hby at_110) rfl rfl ?_
        refine own_sipush X301 hx (255 : Int32) (hb hby at_111) (by decide) rfl ?_
        refine own_iand X301 hx (hb hby at_114) rfl ?_
        refine own_i2c X301 hx (hb hby at_115) rfl ?_
        have hc360 := own_ch p3
        generalize ((p3 &&& (255 : Int32)).toUInt32.toUInt16.toUInt32.toInt32) = c360 at hc360 ⊢
        refine own_stC X301 hx hZ e301 V301 ⟨by decide, by decide⟩ 1 rfl (Nat.le_of_ble_eq_true rfl) (own_narC hc360) N301 g_b292 (hb hby at_116) rfl ?_
        intro T361 h361 X361 e361 W361 N361 V361
        have HH362 := HH302.wr W361 (Safe.arv hZ.alike V301 (by decide))
        have K363 := K303.wr W361 (Or.inr sz_b292)
        refine own_new X361 hx hZ hown (hw _ (List.mem_of_getElem? (i := 2) rfl)) (hw _ (List.mem_of_getElem? (i := 3) rfl)) (hw _ (List.mem_of_getElem? (i := 4) rfl)) e361 (hb hby at_117) (by decide) (by decide) rfl ?_
        intro T364 h364 b364 X364 e364 g364 E364 A364 D364
        have f365 := (((((O0.ext E292).wr W295 g_b292).wr W298 g_b292).wr W301 g_b292).wr W361 g_b292)
        have g_b364 : n0 ≤ b364 := Nat.le_trans (own_oz f365) (Nat.le_of_eq g364.symm)
        have sz_b364 : h0.size ≤ b364 := Nat.le_trans K363.1 (Nat.le_of_eq g364.symm)
        have HH366 := HH362.ext E364
        have K367 := K363.ext E364
        have Y_b364 := own_sfN g364 E364 HH362
        have Fb364_coder : Fld Z h364 b364 "java/lang/String" "coder" "B" (.int (0 : Int32)) := D364 (Or.inr (hw _ (List.mem_of_getElem? (i := 28) rfl))) (ty := .byte) (by decide)
        have Fb364_value : Fld Z h364 b364 "java/lang/String" "value" "[B" .null := D364 (Or.inr (hw _ (List.mem_of_getElem? (i := 30) rfl))) (ty := (.array .byte)) (by decide)
        refine own_dup X364 hx (hb hby at_120) rfl rfl ?_
        refine own_aload X364 hx (hb hby at_121) rfl rfl rfl ?_
        have hp_b364 : ∀ c ∈ ([(73 : Int32), c360, (70 : Int32)] : List Int32), ¬ c < 0 ∧ ¬ (255 : Int32) < c := (own_c2 (by decide) (own_c2 hc360 (own_c2 (by decide) own_c0)))
        have f368 := (V361.ext E364)
        have f369 := (f365.ext E364)
        refine own_specialB X364 hx hZ (y := (⟨"java/lang/String", "<init>", "([C)V"⟩ : MethodName)) rfl hown (hw _ (List.mem_of_getElem? (i := 5) rfl)) (hw _ (List.mem_of_getElem? (i := 6) rfl)) (hw _ (List.mem_of_getElem? (i := 7) rfl)) (by decide) e364 (W := 1) (ce := 1) (sl := 3) (by decide) (by decide) [(.ref b292)] [(.ref b364)] (by rw [hml]; rfl) (a := b364) (StrChars.Road.QV Z b364 (3 : Int32) (([(73 : Int32), c360, (70 : Int32)] : List Int32).map (fun c => c.toInt8.toInt32)) h364 n0) (StrChars.Road.backV (W := 1) hZ (own_hws hw) (kI := 4) (hw _ (List.mem_of_getElem? (i := 3) rfl)) (cs := ([(73 : Int32), c360, (70 : Int32)] : List Int32)) (bs := (([(73 : Int32), c360, (70 : Int32)] : List Int32).map (fun c => c.toInt8.toInt32))) (n := 3) g_b364 (own_oz f369) A364 Fb364_value Fb364_coder f368 (SC.ext f369.2) hzc rfl rfl (by decide) (by decide) hp_b364 rfl (by decide) (by decide)) own_pd1 rfl rfl rfl (hb hby at_123) rfl ?_
        intro v370 T370 L370 X370 hQ370
        obtain ⟨rfl, Nq370, Kq370, Es370, Cs370, t370, kb370, gt370, st370, nt370, Vs370, Ks370⟩ := hQ370
        have N370 := Fr.app N361 Nq370
        have HH371 := HH366.keep Kq370 (sfS Y_b364 sf0)
        have K372 := K367.trans Kq370 (allS (Or.inr sz_b364) all0)
        have co370 : StrChars.Road.CodA ([(73 : Int32), c360, (70 : Int32)] : List Int32) 0 (3 : Int32) (((([(73 : Int32), c360, (70 : Int32)] : List Int32).map (fun c => c.toInt8.toInt32))).map Value.int) := StrChars.Road.codOf (n := 3) rfl (fun c hc => (hp_b364 c hc).2)
        have hb370 := own_up hp_b364
        show own_Ends p e below _ (T370.setTop (mkF m 126 #[.val (.int p1), .val (.int p2), .val (.int p3), .val (.int p4), .val (.int k), .val (.ref b292), .val (.int (1 : Int32)), .unset, .unset, .unset] [(.ref b364)]))
        refine own_astore X370 hx #[.val (.int p1), .val (.int p2), .val (.int p3), .val (.int p4), .val (.int k), .val (.ref b292), .val (.ref b364), .unset, .unset, .unset] (hb hby at_126) rfl rfl rfl ?_
        refine own_aload X370 hx (hb hby at_128) rfl rfl rfl ?_
        have f373 := (f369.keep Kq370 (allS g_b364 all0))
        refine own_staticH X370 hx hZ (y := (⟨"com/example/pincio/pincio/core/CanonicalLiterals", "isSpecial", "(Ljava/lang/String;)Z"⟩ : MethodName)) hown (hw _ (List.mem_of_getElem? (i := 31) rfl)) (hw _ (List.mem_of_getElem? (i := 32) rfl)) (hw _ (List.mem_of_getElem? (i := 33) rfl)) (hw _ (List.mem_of_getElem? (i := 34) rfl)) (by decide) HH371 hEL rfl (by decide) (W := 0) (by decide) (by decide) (by decide) [(.ref b364)] [] (by rw [hml]; rfl) (own_isSpecial l Z a0 hw b364 ([(73 : Int32), c360, (70 : Int32)] : List Int32) zc T370.heap n0 hEL f373 SC hzc ⟨_, _, _, _, _, Es370, Vs370, Cs370, Ks370, co370, hb370, (Nat.le_of_ble_eq_true rfl)⟩) own_pd2 rfl rfl rfl (hb hby at_130) rfl ?_
        intro v374 T374 L374 X374 hQ374 hZ hown HH374 A374
        obtain ⟨rfl, Nq374, Kq374⟩ := hQ374
        have N374 := Fr.app N370 Nq374
        have K375 := K372.trans Kq374 all0
        show own_Ends p e below _ (T374.setTop (mkF m 133 #[.val (.int p1), .val (.int p2), .val (.int p3), .val (.int p4), .val (.int k), .val (.ref b292), .val (.ref b364), .unset, .unset, .unset] [(.int (own_isp ([(73 : Int32), c360, (70 : Int32)] : List Int32)))]))
        by_cases hq376 : c360 = (78 : Int32)
        · rw [show own_isp ([(73 : Int32), c360, (70 : Int32)] : List Int32) = 1 from by subst hq376; decide]
          refine own_ifT X374 hx (hb hby at_133) (by decide) rfl (by decide) ?_
          refine own_aload X374 hx (hb hby at_138) rfl rfl rfl ?_
          have f377 := (f373.keep Kq374 all0)
          have f378 := (Es370.keep Kq374)
          have f379 := (Vs370.keep Kq374 nin0)
          have f380 := (Cs370.keep Kq374 nin0)
          have f381 := (Ks370.keep Kq374 nin0)
          refine own_staticH X374 hx hZ (y := (⟨"com/example/pincio/pincio/core/CanonicalLiterals", "special", "(Ljava/lang/String;)D"⟩ : MethodName)) hown (hw _ (List.mem_of_getElem? (i := 50) rfl)) (hw _ (List.mem_of_getElem? (i := 51) rfl)) (hw _ (List.mem_of_getElem? (i := 33) rfl)) (hw _ (List.mem_of_getElem? (i := 52) rfl)) (by decide) HH374 hEL rfl (by decide) (W := 0) (by decide) (by decide) (by decide) [(.ref b364)] [] (by rw [hml]; rfl) (own_special_ l Z a0 hw b364 ([(73 : Int32), c360, (70 : Int32)] : List Int32) zc T374.heap n0 hEL f377 SC hzc ⟨_, _, _, _, _, f378, f379, f380, f381, co370, hb370, (Nat.le_of_ble_eq_true rfl)⟩) own_pd3 rfl rfl rfl (hb hby at_140) rfl ?_
          intro v382 T382 L382 X382 hQ382 hZ hown HH382 A382
          obtain ⟨rfl, Nq382, Kq382⟩ := hQ382
          have N382 := Fr.app N374 Nq382
          have K383 := K375.trans Kq382 all0
          rw [show own_spv ([(73 : Int32), c360, (70 : Int32)] : List Int32) = (9218868437227405312 : UInt64) from by subst hq376; decide]
          show own_Ends p e below _ (T382.setTop (mkF m 143 #[.val (.int p1), .val (.int p2), .val (.int p3), .val (.int p4), .val (.int k), .val (.ref b292), .val (.ref b364), .unset, .unset, .unset] [(.double (9218868437227405312 : UInt64))]))
          refine own_dstore X382 hx #[.val (.int p1), .val (.int p2), .val (.int p3), .val (.int p4), .val (.int k), .val (.ref b292), .val (.ref b364), .val (.double (9218868437227405312 : UInt64)), .second, .unset] (hb hby at_143) rfl rfl ?_
          refine own_aload X382 hx (hb hby at_145) rfl rfl rfl ?_
          refine own_iconst X382 hx (0 : Int32) (hb hby at_147) (by decide) rfl ?_
          have f384 := (f378.keep Kq382)
          have f385 := (f379.keep Kq382 nin0)
          have f386 := (f380.keep Kq382 nin0)
          have f387 := (f381.keep Kq382 nin0)
          have f388 := (f377.keep Kq382 all0)
          refine own_virtualB X382 hx hZ (y := (⟨"java/lang/String", "charAt", "(I)C"⟩ : MethodName)) (z := (⟨"java/lang/String", "charAt", "(I)C"⟩ : MethodName)) hown (hw _ (List.mem_of_getElem? (i := 54) rfl)) (hw _ (List.mem_of_getElem? (i := 55) rfl)) (notFace_of_selects (args := #[]) (mvT hZ (hw _ (List.mem_of_getElem? (i := 57) rfl)))) (hw _ (List.mem_of_getElem? (i := 57) rfl)) (hw _ (List.mem_of_getElem? (i := 56) rfl)) (by decide) rfl (W := 0) (ce := 0) (sl := 0) (by decide) (by decide) [(.int (0 : Int32))] [] (by rw [hml]; rfl) f384 (fun v h' L => v = some (.int (([(73 : Int32), c360, (70 : Int32)] : List Int32).getD 0 0)) ∧ L = [] ∧ h' = T382.heap) (StrChars.Road.chN (W := 0) hZ (own_hch hw) (kI := 4) (hw _ (List.mem_of_getElem? (i := 3) rfl)) f384 f385 f386 f387 co370 hb370 (SC.ext f388.2) hzc (SF.ext f388.2) rfm (Nat.le_of_ble_eq_true rfl) (i := 0) (Nat.le_of_ble_eq_true rfl) (j := 0) rfl (by decide) (by decide)) own_pd4 rfl rfl rfl (hb hby at_148) rfl ?_
          intro v389 T389 L389 X389 hQ389
          obtain ⟨rfl, rfl, hh389⟩ := hQ389
          have N389 := Fr.app N382 (Fr.nil n0)
          show own_Ends p e below _ (T389.setTop (mkF m 151 #[.val (.int p1), .val (.int p2), .val (.int p3), .val (.int p4), .val (.int k), .val (.ref b292), .val (.ref b364), .val (.double (9218868437227405312 : UInt64)), .second, .unset] [(.int (73 : Int32))]))
          refine own_istore X389 hx #[.val (.int p1), .val (.int p2), .val (.int p3), .val (.int p4), .val (.int k), .val (.ref b292), .val (.ref b364), .val (.double (9218868437227405312 : UInt64)), .second, .val (.int (73 : Int32))] (hb hby at_151) rfl rfl ?_
          refine own_iload X389 hx (hb hby at_153) rfl rfl ?_
          refine own_bipush X389 hx (73 : Int32) (hb hby at_155) (by decide) rfl ?_
          refine own_icmpF X389 hx (hb hby at_157) rfl (by decide) ?_
          refine own_dload X389 hx (hb hby at_160) rfl rfl ?_
          refine own_ldcDouble X389 hx hZ hown (hw _ (List.mem_of_getElem? (i := 75) rfl)) (hb hby at_162) rfl ?_
          refine own_dcmp X389 hx (0 : Int32) (hb hby at_165) (by decide +kernel) rfl ?_
          refine own_ifF X389 hx (hb hby at_166) rfl (by decide) ?_
          refine own_iconst X389 hx (1 : Int32) (hb hby at_169) (by decide) rfl ?_
          refine own_goto X389 hx (hb hby at_170) (by decide) rfl ?_
          exact own_retNH X389 hx hZ hh389 HH382 hEL hlocks hret (by simp) (hb hby at_174) (by decide) (by decide) (by decide) ⟨rfl, N389⟩
        · rw [show own_isp ([(73 : Int32), c360, (70 : Int32)] : List Int32) = 0 from by simp [own_isp, hq376]]
          refine own_ifF X374 hx (hb hby at_133) rfl (by decide) ?_
          refine own_iconst X374 hx (1 : Int32) (hb hby at_136) (by decide) rfl ?_
          exact own_retNH X374 hx hZ rfl HH374 hEL hlocks hret (by simp) (hb hby at_137) (by decide) (by decide) (by decide) ⟨rfl, N374⟩
      · refine own_istore X301 hx #[.val (.int p1), .val (.int p2), .val (.int p3), .val (.int p4), .val (.int k), .val (.ref b292), .val (.int (2 : Int32)), .unset, .unset, .unset] (hb hby at_104) rfl rfl ?_
        refine own_aload X301 hx (hb hby at_106) rfl rfl rfl ?_
        refine own_iload X301 hx (hb hby at_108) rfl rfl ?_
        refine own_iloadN X301 hx (hb hby at_110) rfl rfl ?_
        refine own_sipush X301 hx (255 : Int32) (hb hby at_111) (by decide) rfl ?_
        refine own_iand X301 hx (hb hby at_114) rfl ?_
        refine own_i2c X301 hx (hb hby at_115) rfl ?_
        have hc390 := own_ch p3
        generalize ((p3 &&& (255 : Int32)).toUInt32.toUInt16.toUInt32.toInt32) = c390 at hc390 ⊢
        refine own_stC X301 hx hZ e301 V301 ⟨by decide, by decide⟩ 2 rfl (Nat.le_of_ble_eq_true rfl) (own_narC hc390) N301 g_b292 (hb hby at_116) rfl ?_
        intro T391 h391 X391 e391 W391 N391 V391
        have HH392 := HH302.wr W391 (Safe.arv hZ.alike V301 (by decide))
        have K393 := K303.wr W391 (Or.inr sz_b292)
        refine own_new X391 hx hZ hown (hw _ (List.mem_of_getElem? (i := 2) rfl)) (hw _ (List.mem_of_getElem? (i := 3) rfl)) (hw _ (List.mem_of_getElem? (i := 4) rfl)) e391 (hb hby at_117) (by decide) (by decide) rfl ?_
        intro T394 h394 b394 X394 e394 g394 E394 A394 D394
        have f395 := (((((O0.ext E292).wr W295 g_b292).wr W298 g_b292).wr W301 g_b292).wr W391 g_b292)
        have g_b394 : n0 ≤ b394 := Nat.le_trans (own_oz f395) (Nat.le_of_eq g394.symm)
        have sz_b394 : h0.size ≤ b394 := Nat.le_trans K393.1 (Nat.le_of_eq g394.symm)
        have HH396 := HH392.ext E394
        have K397 := K393.ext E394
        have Y_b394 := own_sfN g394 E394 HH392
        have Fb394_coder : Fld Z h394 b394 "java/lang/String" "coder" "B" (.int (0 : Int32)) := D394 (Or.inr (hw _ (List.mem_of_getElem? (i := 28) rfl))) (ty := .byte) (by decide)
        have Fb394_value : Fld Z h394 b394 "java/lang/String" "value" "[B" .null := D394 (Or.inr (hw _ (List.mem_of_getElem? (i := 30) rfl))) (ty := (.array .byte)) (by decide)
        refine own_dup X394 hx (hb hby at_120) rfl rfl ?_
        refine own_aload X394 hx (hb hby at_121) rfl rfl rfl ?_
        have hp_b394 : ∀ c ∈ ([(73 : Int32), (78 : Int32), c390] : List Int32), ¬ c < 0 ∧ ¬ (255 : Int32) < c := (own_c2 (by decide) (own_c2 (by decide) (own_c2 hc390 own_c0)))
        have f398 := (V391.ext E394)
        have f399 := (f395.ext E394)
        refine own_specialB X394 hx hZ (y := (⟨"java/lang/String", "<init>", "([C)V"⟩ : MethodName)) rfl hown (hw _ (List.mem_of_getElem? (i := 5) rfl)) (hw _ (List.mem_of_getElem? (i := 6) rfl)) (hw _ (List.mem_of_getElem? (i := 7) rfl)) (by decide) e394 (W := 1) (ce := 1) (sl := 3) (by decide) (by decide) [(.ref b292)] [(.ref b394)] (by rw [hml]; rfl) (a := b394) (StrChars.Road.QV Z b394 (3 : Int32) (([(73 : Int32), (78 : Int32), c390] : List Int32).map (fun c => c.toInt8.toInt32)) h394 n0) (StrChars.Road.backV (W := 1) hZ (own_hws hw) (kI := 4) (hw _ (List.mem_of_getElem? (i := 3) rfl)) (cs := ([(73 : Int32), (78 : Int32), c390] : List Int32)) (bs := (([(73 : Int32), (78 : Int32), c390] : List Int32).map (fun c => c.toInt8.toInt32))) (n := 3) g_b394 (own_oz f399) A394 Fb394_value Fb394_coder f398 (SC.ext f399.2) hzc rfl rfl (by decide) (by decide) hp_b394 rfl (by decide) (by decide)) own_pd1 rfl rfl rfl (hb hby at_123) rfl ?_
        intro v400 T400 L400 X400 hQ400
        obtain ⟨rfl, Nq400, Kq400, Es400, Cs400, t400, kb400, gt400, st400, nt400, Vs400, Ks400⟩ := hQ400
        have N400 := Fr.app N391 Nq400
        have HH401 := HH396.keep Kq400 (sfS Y_b394 sf0)
        have K402 := K397.trans Kq400 (allS (Or.inr sz_b394) all0)
        have co400 : StrChars.Road.CodA ([(73 : Int32), (78 : Int32), c390] : List Int32) 0 (3 : Int32) (((([(73 : Int32), (78 : Int32), c390] : List Int32).map (fun c => c.toInt8.toInt32))).map Value.int) := StrChars.Road.codOf (n := 3) rfl (fun c hc => (hp_b394 c hc).2)
        have hb400 := own_up hp_b394
        show own_Ends p e below _ (T400.setTop (mkF m 126 #[.val (.int p1), .val (.int p2), .val (.int p3), .val (.int p4), .val (.int k), .val (.ref b292), .val (.int (2 : Int32)), .unset, .unset, .unset] [(.ref b394)]))
        refine own_astore X400 hx #[.val (.int p1), .val (.int p2), .val (.int p3), .val (.int p4), .val (.int k), .val (.ref b292), .val (.ref b394), .unset, .unset, .unset] (hb hby at_126) rfl rfl rfl ?_
        refine own_aload X400 hx (hb hby at_128) rfl rfl rfl ?_
        have f403 := (f399.keep Kq400 (allS g_b394 all0))
        refine own_staticH X400 hx hZ (y := (⟨"com/example/pincio/pincio/core/CanonicalLiterals", "isSpecial", "(Ljava/lang/String;)Z"⟩ : MethodName)) hown (hw _ (List.mem_of_getElem? (i := 31) rfl)) (hw _ (List.mem_of_getElem? (i := 32) rfl)) (hw _ (List.mem_of_getElem? (i := 33) rfl)) (hw _ (List.mem_of_getElem? (i := 34) rfl)) (by decide) HH401 hEL rfl (by decide) (W := 0) (by decide) (by decide) (by decide) [(.ref b394)] [] (by rw [hml]; rfl) (own_isSpecial l Z a0 hw b394 ([(73 : Int32), (78 : Int32), c390] : List Int32) zc T400.heap n0 hEL f403 SC hzc ⟨_, _, _, _, _, Es400, Vs400, Cs400, Ks400, co400, hb400, (Nat.le_of_ble_eq_true rfl)⟩) own_pd2 rfl rfl rfl (hb hby at_130) rfl ?_
        intro v404 T404 L404 X404 hQ404 hZ hown HH404 A404
        obtain ⟨rfl, Nq404, Kq404⟩ := hQ404
        have N404 := Fr.app N400 Nq404
        have K405 := K402.trans Kq404 all0
        show own_Ends p e below _ (T404.setTop (mkF m 133 #[.val (.int p1), .val (.int p2), .val (.int p3), .val (.int p4), .val (.int k), .val (.ref b292), .val (.ref b394), .unset, .unset, .unset] [(.int (own_isp ([(73 : Int32), (78 : Int32), c390] : List Int32)))]))
        by_cases hq406 : c390 = (70 : Int32)
        · rw [show own_isp ([(73 : Int32), (78 : Int32), c390] : List Int32) = 1 from by subst hq406; decide]
          refine own_ifT X404 hx (hb hby at_133) (by decide) rfl (by decide) ?_
          refine own_aload X404 hx (hb hby at_138) rfl rfl rfl ?_
          have f407 := (f403.keep Kq404 all0)
          have f408 := (Es400.keep Kq404)
          have f409 := (Vs400.keep Kq404 nin0)
          have f410 := (Cs400.keep Kq404 nin0)
          have f411 := (Ks400.keep Kq404 nin0)
          refine own_staticH X404 hx hZ (y := (⟨"com/example/pincio/pincio/core/CanonicalLiterals", "special", "(Ljava/lang/String;)D"⟩ : MethodName)) hown (hw _ (List.mem_of_getElem? (i := 50) rfl)) (hw _ (List.mem_of_getElem? (i := 51) rfl)) (hw _ (List.mem_of_getElem? (i := 33) rfl)) (hw _ (List.mem_of_getElem? (i := 52) rfl)) (by decide) HH404 hEL rfl (by decide) (W := 0) (by decide) (by decide) (by decide) [(.ref b394)] [] (by rw [hml]; rfl) (own_special_ l Z a0 hw b394 ([(73 : Int32), (78 : Int32), c390] : List Int32) zc T404.heap n0 hEL f407 SC hzc ⟨_, _, _, _, _, f408, f409, f410, f411, co400, hb400, (Nat.le_of_ble_eq_true rfl)⟩) own_pd3 rfl rfl rfl (hb hby at_140) rfl ?_
          intro v412 T412 L412 X412 hQ412 hZ hown HH412 A412
          obtain ⟨rfl, Nq412, Kq412⟩ := hQ412
          have N412 := Fr.app N404 Nq412
          have K413 := K405.trans Kq412 all0
          rw [show own_spv ([(73 : Int32), (78 : Int32), c390] : List Int32) = (9218868437227405312 : UInt64) from by subst hq406; decide]
          show own_Ends p e below _ (T412.setTop (mkF m 143 #[.val (.int p1), .val (.int p2), .val (.int p3), .val (.int p4), .val (.int k), .val (.ref b292), .val (.ref b394), .unset, .unset, .unset] [(.double (9218868437227405312 : UInt64))]))
          refine own_dstore X412 hx #[.val (.int p1), .val (.int p2), .val (.int p3), .val (.int p4), .val (.int k), .val (.ref b292), .val (.ref b394), .val (.double (9218868437227405312 : UInt64)), .second, .unset] (hb hby at_143) rfl rfl ?_
          refine own_aload X412 hx (hb hby at_145) rfl rfl rfl ?_
          refine own_iconst X412 hx (0 : Int32) (hb hby at_147) (by decide) rfl ?_
          have f414 := (f408.keep Kq412)
          have f415 := (f409.keep Kq412 nin0)
          have f416 := (f410.keep Kq412 nin0)
          have f417 := (f411.keep Kq412 nin0)
          have f418 := (f407.keep Kq412 all0)
          refine own_virtualB X412 hx hZ (y := (⟨"java/lang/String", "charAt", "(I)C"⟩ : MethodName)) (z := (⟨"java/lang/String", "charAt", "(I)C"⟩ : MethodName)) hown (hw _ (List.mem_of_getElem? (i := 54) rfl)) (hw _ (List.mem_of_getElem? (i := 55) rfl)) (notFace_of_selects (args := #[]) (mvT hZ (hw _ (List.mem_of_getElem? (i := 57) rfl)))) (hw _ (List.mem_of_getElem? (i := 57) rfl)) (hw _ (List.mem_of_getElem? (i := 56) rfl)) (by decide) rfl (W := 0) (ce := 0) (sl := 0) (by decide) (by decide) [(.int (0 : Int32))] [] (by rw [hml]; rfl) f414 (fun v h' L => v = some (.int (([(73 : Int32), (78 : Int32), c390] : List Int32).getD 0 0)) ∧ L = [] ∧ h' = T412.heap) (StrChars.Road.chN (W := 0) hZ (own_hch hw) (kI := 4) (hw _ (List.mem_of_getElem? (i := 3) rfl)) f414 f415 f416 f417 co400 hb400 (SC.ext f418.2) hzc (SF.ext f418.2) rfm (Nat.le_of_ble_eq_true rfl) (i := 0) (Nat.le_of_ble_eq_true rfl) (j := 0) rfl (by decide) (by decide)) own_pd4 rfl rfl rfl (hb hby at_148) rfl ?_
          intro v419 T419 L419 X419 hQ419
          obtain ⟨rfl, rfl, hh419⟩ := hQ419
          have N419 := Fr.app N412 (Fr.nil n0)
          show own_Ends p e below _ (T419.setTop (mkF m 151 #[.val (.int p1), .val (.int p2), .val (.int p3), .val (.int p4), .val (.int k), .val (.ref b292), .val (.ref b394), .val (.double (9218868437227405312 : UInt64)), .second, .unset] [(.int (73 : Int32))]))
          refine own_istore X419 hx #[.val (.int p1), .val (.int p2), .val (.int p3), .val (.int p4), .val (.int k), .val (.ref b292), .val (.ref b394), .val (.double (9218868437227405312 : UInt64)), .second, .val (.int (73 : Int32))] (hb hby at_151) rfl rfl ?_
          refine own_iload X419 hx (hb hby at_153) rfl rfl ?_
          refine own_bipush X419 hx (73 : Int32) (hb hby at_155) (by decide) rfl ?_
          refine own_icmpF X419 hx (hb hby at_157) rfl (by decide) ?_
          refine own_dload X419 hx (hb hby at_160) rfl rfl ?_
          refine own_ldcDouble X419 hx hZ hown (hw _ (List.mem_of_getElem? (i := 75) rfl)) (hb hby at_162) rfl ?_
          refine own_dcmp X419 hx (0 : Int32) (hb hby at_165) (by decide +kernel) rfl ?_
          refine own_ifF X419 hx (hb hby at_166) rfl (by decide) ?_
          refine own_iconst X419 hx (1 : Int32) (hb hby at_169) (by decide) rfl ?_
          refine own_goto X419 hx (hb hby at_170) (by decide) rfl ?_
          exact own_retNH X419 hx hZ hh419 HH412 hEL hlocks hret (by simp) (hb hby at_174) (by decide) (by decide) (by decide) ⟨rfl, N419⟩
        · rw [show own_isp ([(73 : Int32), (78 : Int32), c390] : List Int32) = 0 from by simp [own_isp, hq406]]
          refine own_ifF X404 hx (hb hby at_133) rfl (by decide) ?_
          refine own_iconst X404 hx (1 : Int32) (hb hby at_136) (by decide) rfl ?_
          exact own_retNH X404 hx hZ rfl HH404 hEL hlocks hret (by simp) (hb hby at_137) (by decide) (by decide) (by decide) ⟨rfl, N404⟩
set_option maxRecDepth 65536 in
set_option maxHeartbeats 40000000 in
theorem comes_1 {Post : Tables → Env → Array Value → State → Outcome → State → Prop} (hpost : ∀ tb e args s v u, (limb_1_1.after args s (.returned v) u = true ∧ limb_1_2.after args s (.returned v) u = true ∧ True) → ReturnedEndW s (.returned v) u (Jvm.fieldLocs frame_1_writes args s ++ Jvm.arrayLocs frame_1_arrays args s ++ Jvm.staticLocs frame_1_statics s) 24 3200 → Post tb e args s (.returned v) u) :
    ArmFor flags0 classFile x code maxLocals ret World_1 tables_1 room_1 Calls_1 rest_1 Pre_1 Post := by
  intro l hfl _ _ p e ha hc hk s m args below hf hA hF happ hP
  obtain ⟨hcalls, hrest, hpre⟩ := hP
  obtain ⟨-, -, -, hnamed, -, -, -, hat⟩ := (Spec.applies_iff hf).mp happ
  obtain ⟨hg, hn⟩ := and_e (Cond.before_iff.mp (show (Jvm.Cond.and given_1 narrow_1).before args s = true from hpre))
  obtain ⟨k1a, k1b⟩ := and_e hg
  obtain ⟨k2a, k2b⟩ := and_e k1b
  obtain ⟨k3a, k3b⟩ := and_e k2b
  obtain ⟨k4a, k4b⟩ := and_e k3b
  obtain ⟨w0, w1, w2, w3, rfl⟩ : ∃ w0 w1 w2 w3 : Value, args = #[w0, w1, w2, w3] := by
    have hs : args.size = 4 := by simpa [Cond.value, given_1] using k1a
    obtain ⟨L⟩ := args
    match L, hs with
    | [w0, w1, w2, w3], _ => exact ⟨w0, w1, w2, w3, rfl⟩
  have hw := fun d (hd : d ∈ tables_1) => atoms_spec (ws := Jvm.Cond.code x code maxLocals ret :: tables_1) hat d (List.mem_cons_of_mem _ hd)
  have hfit : Fit s := fun {y c} hc i hi => by
    obtain ⟨ha, rfl⟩ := Array.getElem?_eq_some_iff.mp hc
    have q := List.all_eq_true.mp ((Array.all_eq_true_iff_forall_mem.mp hF) _ (Array.getElem_mem ha)) i (List.mem_range.mpr hi)
    simpa [Array.getElem?_eq_getElem hi] using q
  obtain ⟨hsets, hown0⟩ := atoms_of _ (rest_1_c_eq ▸ (show rest_1_c.before _ s = true from hrest))
  obtain ⟨i0, ei0⟩ := is_v k2a
  obtain rfl : w0 = (.int i0) := Option.some.inj ei0
  obtain ⟨i1, ei1⟩ := is_v k3a
  obtain rfl : w1 = (.int i1) := Option.some.inj ei1
  obtain ⟨i2, ei2⟩ := is_v k4a
  obtain rfl : w2 = (.int i2) := Option.some.inj ei2
  obtain ⟨i3, ei3⟩ := is_v k4b
  obtain rfl : w3 = (.int i3) := Option.some.inj ei3
  have nzc := not_v (Cond.before_iff.mp (hsets _ (List.mem_of_getElem? (i := 2) rfl)))
  obtain ⟨zc, ezc⟩ := is_v (Cond.before_iff.mp (hsets _ (List.mem_of_getElem? (i := 1) rfl)))
  have SC := Sta.start ezc (Or.inl (hsets _ (List.mem_of_getElem? (i := 0) rfl)))
  have hzc : ¬ (zc = (0 : Int32)) := gotF (Cond.eq_ints ezc (Term.int_eval (0))) nzc
  have hEL : EW s _ consts_1 := (EW.cons (hw _ (List.mem_of_getElem? (i := 35) rfl)) (by decide) (EW.cons (hw _ (List.mem_of_getElem? (i := 48) rfl)) (by decide) (EW.cons (hw _ (List.mem_of_getElem? (i := 49) rfl)) (by decide) EW.nil)))
  have hCH := CHv.start hEL (fun p hp => (hcalls.1 p hp :)) (show Jvm.Lit.compactW.before _ s = true from (hsets _ (List.mem_of_getElem? (i := 2) rfl))) (hw _ (List.mem_of_getElem? (i := 20) rfl)) (hw _ (List.mem_of_getElem? (i := 3) rfl))
  obtain ⟨fm, efm, rfm⟩ := isR_v (Cond.before_iff.mp (hsets _ (List.mem_of_getElem? (i := 8) rfl)))
  have SF := Sta.start efm (Or.inl (hsets _ (List.mem_of_getElem? (i := 7) rfl)))
  obtain ⟨n, o, h1, h2, h3, _, L, rfl, ⟨rfl, N⟩, hC, hq⟩ := own_law l s _ hw i0 i1 i2 i3 zc fm s.heap s.heap.size hEL (Old.start s) SC hzc SF rfm tables_1 p e ha hc hk s m _ below hf ((Spec.applies_iff_loose hf).mp happ).1 ⟨rfl, State.Warmed39.refl s, rfl, hCH⟩ trivial
  refine ⟨n, _, h1, h2, h3, hpost _ _ _ _ _ _ ⟨Cond.after_iff.mpr rfl, Cond.after_iff.mpr (eq_i res_at (Term.int_eval (1)) rfl), trivial⟩ ⟨hq.1, hq.2.1, hq.2.2.1, (hq.2.2.2.sift fun y hy => Or.inr (N y hy)).mono (by decide) (by decide)⟩⟩
theorem main_1_1 : Claimed_1_1 := comes_1 fun _ _ _ _ _ _ h hF => ⟨h.1, hF⟩
theorem main_1_2 : Claimed_1_2 := comes_1 fun _ _ _ _ _ _ h hF => ⟨h.2.1, hF⟩
end Jvm.Pilot.@@N@@
namespace Jvm.Pilot.@@N@@
open Jvm Jvm.ClassFile Sem Op Lib Jvm.Free Jvm.Stand Jvm.Pilot.@@N@@.Jvm.D
/-! MADE BY PROGRAM (witnessworld.py) out of the Statement's table words and the real class files: 20 classes; the members and pool entries that the words name. The judged class is class 1, her method 1. -/
namespace start1
open Jvm.ClassFile
def u (s : String) : CpInfo := .utf8 (stringToUtf16 s)
/-- a pool by its gaps: so many unusable entries, then the entry; so many at the end -/
def gap : Nat → List CpInfo → List CpInfo
  | 0, r => r
  | n + 1, r => .unusable :: gap n r
def poolList (es : List (Nat × CpInfo)) (last : Nat) : List CpInfo := es.foldr (fun e r => gap e.1 (e.2 :: r)) (gap last [])
def pool (es : List (Nat × CpInfo)) (last : Nat) : Array CpInfo := ⟨poolList es last⟩
def fileOf (pool : Array CpInfo) (this : Nat) (attrs : Array Attribute := #[]) (ms : Array MethodInfo := #[]) (fl : Nat := 33) (sup : Nat := 0) (ifs : Array Nat := #[]) (fds : Array FieldInfo := #[]) : ClassFile where
  minorVersion := 0
  majorVersion := 65
  constantPool := pool
  accessFlags := fl
  thisClass := this
  superClass := sup
  interfaces := ifs
  fields := fds
  methods := ms
  attributes := attrs
def plain (name : String) (sup : Option ClassId) : Class where
  name := name
  kind := .ordinary
  loader := none
  accessFlags := 33
  super := sup
  interfaces := #[]
  cf := none
  fields := #[]
  methods := #[]
  instanceTypes := #[]
  staticTypes := #[]
  resolved := #[]
  callSites := []
  init := .initialized
  statics := none
  mirror := none

def pool0 : Array CpInfo := pool [(5, u "<init>"), (0, u "()V"), (1, .class_ 10), (1, u "java/lang/Object")] 113

def k0c0 : Code := { maxStack := 0, maxLocals := 1, code := object_method_1_code, exceptionTable := #[], attributes := #[] }
def k0m0 : Method := { name := "<init>", desc := "()V", sig := { parameters := [], returnType := none }, accessFlags := 1, code := some k0c0 }
/-- java/lang/Object -/
def k0 : Class := { plain "java/lang/Object" none with
  accessFlags := 33
  interfaces := #[]
  cf := some (fileOf pool0 8 #[] #[{ accessFlags := 1, nameIndex := 5, descriptorIndex := 6, attributes := #[] }] 33 0 #[] #[])
  fields := #[]
  methods := #[k0m0]
  instanceTypes := #[]
  staticTypes := #[]
  resolved := Array.replicate 124 none
  statics := none }

def pool1 : Array CpInfo := pool [(2, .class_ 4), (1, u "java/lang/Object"), (0, u "<init>"), (0, u "()V"), (0, .integer 2147483647), (0, .class_ 9), (0, u "java/lang/String"), (0, .methodref 8 11), (0, .nameAndType 5 12), (0, u "([C)V"), (0, .methodref 14 15), (0, .class_ 16), (0, .nameAndType 17 18), (0, u "com/example/pincio/pincio/core/CanonicalLiterals"), (0, u "isSpecial"), (0, u "(Ljava/lang/String;)Z"), (0, .methodref 14 20), (0, .nameAndType 21 22), (0, u "special"), (0, u "(Ljava/lang/String;)D"), (0, .methodref 8 24), (0, .nameAndType 25 26), (0, u "charAt"), (0, u "(I)C"), (2, .double 9218868437227405312), (1, .double 18442240474082181120), (1, .class_ 34), (0, u "com/example/pincio/pincio/core/CanonicalLiteralsSpecialPinLaw"), (2, u "law"), (0, u "(IIII)Z")] 5

def k1m0 : Method := { name := "<init>", desc := "()V", sig := { parameters := [], returnType := none }, accessFlags := 2, code := none }
def k1c1 : Code := { maxStack := 4, maxLocals := 10, code := code, exceptionTable := #[], attributes := #[] }
def k1m1 : Method := { name := "law", desc := "(IIII)Z", sig := { parameters := [.int, .int, .int, .int], returnType := some .boolean }, accessFlags := 9, code := some k1c1 }
/-- com/example/pincio/pincio/core/CanonicalLiteralsSpecialPinLaw -/
def k1 : Class := { plain "com/example/pincio/pincio/core/CanonicalLiteralsSpecialPinLaw" (some 0) with
  accessFlags := 49
  interfaces := #[]
  cf := some (fileOf pool1 33 #[] #[{ accessFlags := 2, nameIndex := 5, descriptorIndex := 6, attributes := #[] }, { accessFlags := 9, nameIndex := 37, descriptorIndex := 38, attributes := #[] }] 49 2 #[] #[])
  fields := #[]
  methods := #[k1m0, k1m1]
  instanceTypes := #[]
  staticTypes := #[]
  resolved := Array.replicate 44 none
  statics := none }

def pool2 : Array CpInfo := pool [(1, .class_ 2), (0, u "java/io/Serializable"), (0, .class_ 4), (0, u "java/lang/Object")] 2

/-- java/io/Serializable -/
def k2 : Class := { plain "java/io/Serializable" (some 0) with
  accessFlags := 1537
  interfaces := #[]
  cf := some (fileOf pool2 1 #[] #[] 1537 3 #[] #[])
  fields := #[]
  methods := #[]
  instanceTypes := #[]
  staticTypes := #[]
  resolved := Array.replicate 7 none
  statics := none }

def pool3 : Array CpInfo := pool [(1, .class_ 2), (0, u "java/lang/Comparable"), (0, .class_ 4), (0, u "java/lang/Object")] 7

/-- java/lang/Comparable -/
def k3 : Class := { plain "java/lang/Comparable" (some 0) with
  accessFlags := 1537
  interfaces := #[]
  cf := some (fileOf pool3 1 #[] #[] 1537 3 #[] #[])
  fields := #[]
  methods := #[]
  instanceTypes := #[]
  staticTypes := #[]
  resolved := Array.replicate 12 none
  statics := none }

def pool4 : Array CpInfo := pool [(2, .class_ 4), (1, u "java/lang/CharSequence"), (42, .class_ 48), (0, u "java/lang/CharSequence$1CodePointIterator"), (10, .class_ 60), (0, u "java/lang/CharSequence$1CharIterator"), (5, .class_ 67), (0, u "java/lang/Object")] 63

/-- java/lang/CharSequence -/
def k4 : Class := { plain "java/lang/CharSequence" (some 0) with
  accessFlags := 1537
  interfaces := #[]
  cf := some (fileOf pool4 2 #[.nestMembers #[47, 59]] #[] 1537 66 #[] #[])
  fields := #[]
  methods := #[]
  instanceTypes := #[]
  staticTypes := #[]
  resolved := Array.replicate 131 none
  statics := none }

def pool5 : Array CpInfo := pool [(1, .class_ 2), (0, u "java/lang/constant/Constable"), (0, .class_ 4), (0, u "java/lang/Object")] 6

/-- java/lang/constant/Constable -/
def k5 : Class := { plain "java/lang/constant/Constable" (some 0) with
  accessFlags := 1537
  interfaces := #[]
  cf := some (fileOf pool5 1 #[] #[] 1537 3 #[] #[])
  fields := #[]
  methods := #[]
  instanceTypes := #[]
  staticTypes := #[]
  resolved := Array.replicate 11 none
  statics := none }

def pool6 : Array CpInfo := pool [(1, .class_ 2), (0, u "java/lang/constant/ConstantDesc"), (0, .class_ 4), (0, u "java/lang/Object")] 32

/-- java/lang/constant/ConstantDesc -/
def k6 : Class := { plain "java/lang/constant/ConstantDesc" (some 0) with
  accessFlags := 1537
  interfaces := #[]
  cf := some (fileOf pool6 1 #[] #[] 1537 3 #[] #[])
  fields := #[]
  methods := #[]
  instanceTypes := #[]
  staticTypes := #[]
  resolved := Array.replicate 37 none
  statics := none }

def pool7 : Array CpInfo := pool [(1, .methodref 2 3), (0, .class_ 4), (0, .nameAndType 5 6), (0, u "java/lang/Object"), (0, u "<init>"), (0, u "()V"), (2, .fieldref 10 11), (0, .class_ 12), (0, .nameAndType 13 14), (0, u "java/lang/String"), (0, u "value"), (0, u "[B"), (0, .fieldref 10 16), (0, .nameAndType 17 18), (0, u "coder"), (0, u "B"), (2, u "hash"), (0, u "I"), (2, u "hashIsZero"), (0, u "Z"), (0, .methodref 10 28), (0, .nameAndType 5 29), (0, u "([CIILjava/lang/Void;)V"), (8, .fieldref 10 39), (0, .nameAndType 40 26), (0, u "COMPACT_STRINGS"), (1, .class_ 44), (1, u "java/lang/StringUTF16"), (0, u "compress"), (1, .methodref 42 48), (0, .nameAndType 49 50), (0, u "coderFromArrayLen"), (0, u "([BI)B"), (56, .class_ 109), (1, u "java/lang/StringLatin1"), (32, u "()Z"), (34, .methodref 42 178), (0, .nameAndType 45 179), (0, u "([CII)[B"), (183, u "([BI)C"), (27, u "(II)V"), (35, u "(I)C"), (64, .methodref 10 493), (0, .nameAndType 494 142), (0, u "isLatin1"), (0, .methodref 107 496), (0, .nameAndType 497 363), (0, u "charAt"), (3, u "checkIndex"), (39, .methodref 107 542), (0, .nameAndType 543 544), (0, u "equals"), (0, u "([B[B)Z"), (28, u "(Ljava/lang/Object;)Z"), (1, .class_ 576), (0, u "java/lang/CharSequence"), (22, u "CASE_INSENSITIVE_ORDER"), (0, u "Ljava/util/Comparator;"), (409, u "([C)V"), (42, .fieldref 1054 1055), (0, .class_ 1056), (0, .nameAndType 1057 1058), (0, u "jdk/internal/util/Preconditions"), (0, u "SIOOBE_FORMATTER"), (0, u "Ljava/util/function/BiFunction;"), (0, .methodref 1054 1060), (0, .nameAndType 501 1061), (0, u "(IILjava/util/function/BiFunction;)I"), (39, u "serialPersistentFields"), (0, u "[Ljava/io/ObjectStreamField;"), (0, .class_ 1104), (0, u "java/lang/String$CaseInsensitiveComparator"), (1, .class_ 1107), (0, u "java/io/Serializable"), (0, .class_ 1109), (0, u "java/lang/Comparable"), (0, .class_ 1111), (0, u "java/lang/constant/Constable"), (0, .class_ 1113), (0, u "java/lang/constant/ConstantDesc"), (2, u "serialVersionUID"), (0, u "J"), (3, u "REPL"), (0, u "C"), (2, u "LATIN1"), (1, u "UTF16")] 323

def k7m0 : Method := { name := "<init>", desc := "()V", sig := { parameters := [], returnType := none }, accessFlags := 1, code := none }
def k7c1 : Code := { maxStack := 5, maxLocals := 2, code := jdk_42_method_3_code, exceptionTable := #[], attributes := #[] }
def k7m1 : Method := { name := "<init>", desc := "([C)V", sig := { parameters := [(.array .char)], returnType := none }, accessFlags := 1, code := some k7c1 }
def k7c2 : Code := { maxStack := 2, maxLocals := 2, code := jdk_42_method_56_code, exceptionTable := #[], attributes := #[] }
def k7m2 : Method := { name := "charAt", desc := "(I)C", sig := { parameters := [.int], returnType := some .char }, accessFlags := 1, code := some k7c2 }
def k7c3 : Code := { maxStack := 2, maxLocals := 3, code := jdk_42_method_66_code, exceptionTable := #[], attributes := #[] }
def k7m3 : Method := { name := "equals", desc := "(Ljava/lang/Object;)Z", sig := { parameters := [(.object "java/lang/Object")], returnType := some .boolean }, accessFlags := 1, code := some k7c3 }
def k7c4 : Code := { maxStack := 4, maxLocals := 6, code := jdk_42_method_149_code, exceptionTable := #[], attributes := #[] }
def k7m4 : Method := { name := "<init>", desc := "([CIILjava/lang/Void;)V", sig := { parameters := [(.array .char), .int, .int, (.object "java/lang/Void")], returnType := none }, accessFlags := 2, code := some k7c4 }
def k7c5 : Code := { maxStack := 1, maxLocals := 1, code := jdk_42_method_154_code, exceptionTable := #[], attributes := #[] }
def k7m5 : Method := { name := "isLatin1", desc := "()Z", sig := { parameters := [], returnType := some .boolean }, accessFlags := 0, code := some k7c5 }
def k7c6 : Code := { maxStack := 3, maxLocals := 2, code := jdk_42_method_155_code, exceptionTable := #[], attributes := #[] }
def k7m6 : Method := { name := "checkIndex", desc := "(II)V", sig := { parameters := [.int, .int], returnType := none }, accessFlags := 8, code := some k7c6 }
/-- java/lang/String -/
def k7 : Class := { plain "java/lang/String" (some 0) with
  accessFlags := 49
  interfaces := #[2, 3, 4, 5, 6]
  cf := some (fileOf pool7 10 #[.nestMembers #[1103]] #[{ accessFlags := 1, nameIndex := 5, descriptorIndex := 6, attributes := #[] }, { accessFlags := 1, nameIndex := 5, descriptorIndex := 1010, attributes := #[] }, { accessFlags := 1, nameIndex := 497, descriptorIndex := 427, attributes := #[] }, { accessFlags := 1, nameIndex := 543, descriptorIndex := 573, attributes := #[] }, { accessFlags := 2, nameIndex := 5, descriptorIndex := 29, attributes := #[] }, { accessFlags := 0, nameIndex := 494, descriptorIndex := 142, attributes := #[] }, { accessFlags := 8, nameIndex := 501, descriptorIndex := 391, attributes := #[] }] 49 2 #[1106, 1108, 575, 1110, 1112] #[{ accessFlags := 18, nameIndex := 13, descriptorIndex := 14, attributes := #[] }, { accessFlags := 18, nameIndex := 17, descriptorIndex := 18, attributes := #[] }, { accessFlags := 2, nameIndex := 21, descriptorIndex := 22, attributes := #[] }, { accessFlags := 2, nameIndex := 25, descriptorIndex := 26, attributes := #[] }, { accessFlags := 26, nameIndex := 1116, descriptorIndex := 1117, attributes := #[] }, { accessFlags := 24, nameIndex := 40, descriptorIndex := 26, attributes := #[] }, { accessFlags := 26, nameIndex := 1101, descriptorIndex := 1102, attributes := #[] }, { accessFlags := 26, nameIndex := 1121, descriptorIndex := 1122, attributes := #[] }, { accessFlags := 25, nameIndex := 599, descriptorIndex := 600, attributes := #[] }, { accessFlags := 24, nameIndex := 1125, descriptorIndex := 18, attributes := #[] }, { accessFlags := 24, nameIndex := 1127, descriptorIndex := 18, attributes := #[] }])
  fields := #[{ name := "value", type := (.array .byte), accessFlags := 18, slot := 0, constantValue := 0 }, { name := "coder", type := .byte, accessFlags := 18, slot := 1, constantValue := 0 }, { name := "hash", type := .int, accessFlags := 2, slot := 2, constantValue := 0 }, { name := "hashIsZero", type := .boolean, accessFlags := 2, slot := 3, constantValue := 0 }, { name := "serialVersionUID", type := .long, accessFlags := 26, slot := 0, constantValue := 0 }, { name := "COMPACT_STRINGS", type := .boolean, accessFlags := 24, slot := 1, constantValue := 0 }, { name := "serialPersistentFields", type := (.array (.object "java/io/ObjectStreamField")), accessFlags := 26, slot := 2, constantValue := 0 }, { name := "REPL", type := .char, accessFlags := 26, slot := 3, constantValue := 0 }, { name := "CASE_INSENSITIVE_ORDER", type := (.object "java/util/Comparator"), accessFlags := 25, slot := 4, constantValue := 0 }, { name := "LATIN1", type := .byte, accessFlags := 24, slot := 5, constantValue := 0 }, { name := "UTF16", type := .byte, accessFlags := 24, slot := 6, constantValue := 0 }]
  methods := #[k7m0, k7m1, k7m2, k7m3, k7m4, k7m5, k7m6]
  instanceTypes := #[(.array .byte), .byte, .int, .boolean]
  staticTypes := #[.long, .boolean, (.array (.object "java/io/ObjectStreamField")), .char, (.object "java/util/Comparator"), .byte, .byte]
  resolved := Array.replicate 1451 none
  statics := some 0 }

def pool8 : Array CpInfo := pool [(6, .class_ 8), (1, u "java/lang/Object"), (0, u "<init>"), (0, u "()V"), (1, .class_ 14), (1, u "java/lang/StringUTF16"), (31, u "$assertionsDisabled"), (0, u "Z"), (13, u "HI_BYTE_SHIFT"), (0, u "I"), (2, u "LO_BYTE_SHIFT"), (49, .methodref 12 116), (0, .nameAndType 117 118), (0, u "compress"), (0, u "([CI[BII)I"), (3, u "([CII)[B"), (138, u "coderFromArrayLen"), (0, u "([BI)B"), (106, .class_ 371), (1, u "java/lang/StringUTF16$LinesSpliterator"), (58, u "MAX_LENGTH"), (196, .class_ 628), (0, u "java/lang/StringUTF16$CodePointsSpliterator"), (0, .class_ 630), (0, u "java/lang/StringUTF16$CharsSpliterator")] 4

def k8m0 : Method := { name := "<init>", desc := "()V", sig := { parameters := [], returnType := none }, accessFlags := 0, code := none }
def k8c1 : Code := { maxStack := 2, maxLocals := 2, code := jdk_52_method_15_code, exceptionTable := #[], attributes := #[] }
def k8m1 : Method := { name := "coderFromArrayLen", desc := "([BI)B", sig := { parameters := [(.array .byte), .int], returnType := some .byte }, accessFlags := 8, code := some k8c1 }
def k8c2 : Code := { maxStack := 5, maxLocals := 6, code := jdk_52_method_16_code, exceptionTable := #[], attributes := #[] }
def k8m2 : Method := { name := "compress", desc := "([CII)[B", sig := { parameters := [(.array .char), .int, .int], returnType := some (.array .byte) }, accessFlags := 9, code := some k8c2 }
def k8c3 : Code := { maxStack := 3, maxLocals := 7, code := jdk_52_method_21_code, exceptionTable := #[], attributes := #[] }
def k8m3 : Method := { name := "compress", desc := "([CI[BII)I", sig := { parameters := [(.array .char), .int, (.array .byte), .int, .int], returnType := some .int }, accessFlags := 9, code := some k8c3 }
/-- java/lang/StringUTF16 -/
def k8 : Class := { plain "java/lang/StringUTF16" (some 0) with
  accessFlags := 48
  interfaces := #[]
  cf := some (fileOf pool8 12 #[.nestMembers #[627, 629, 369]] #[{ accessFlags := 0, nameIndex := 9, descriptorIndex := 10, attributes := #[] }, { accessFlags := 8, nameIndex := 261, descriptorIndex := 262, attributes := #[] }, { accessFlags := 9, nameIndex := 117, descriptorIndex := 122, attributes := #[] }, { accessFlags := 9, nameIndex := 117, descriptorIndex := 118, attributes := #[] }] 48 6 #[] #[{ accessFlags := 26, nameIndex := 61, descriptorIndex := 62, attributes := #[] }, { accessFlags := 26, nameIndex := 65, descriptorIndex := 62, attributes := #[] }, { accessFlags := 24, nameIndex := 430, descriptorIndex := 62, attributes := #[] }, { accessFlags := 4120, nameIndex := 46, descriptorIndex := 47, attributes := #[] }])
  fields := #[{ name := "HI_BYTE_SHIFT", type := .int, accessFlags := 26, slot := 0, constantValue := 0 }, { name := "LO_BYTE_SHIFT", type := .int, accessFlags := 26, slot := 1, constantValue := 0 }, { name := "MAX_LENGTH", type := .int, accessFlags := 24, slot := 2, constantValue := 0 }, { name := "$assertionsDisabled", type := .boolean, accessFlags := 4120, slot := 3, constantValue := 0 }]
  methods := #[k8m0, k8m1, k8m2, k8m3]
  instanceTypes := #[]
  staticTypes := #[.int, .int, .int, .boolean]
  resolved := Array.replicate 635 none
  statics := none }

def pool9 : Array CpInfo := pool [(2, .class_ 4), (1, u "java/lang/Object"), (0, u "<init>"), (0, u "()V"), (20, .methodref 28 29), (0, .class_ 30), (0, .nameAndType 31 32), (0, u "java/lang/String"), (0, u "equals"), (0, u "(Ljava/lang/Object;)Z"), (1, .class_ 36), (1, u "com/example/pincio/pincio/core/CanonicalLiterals"), (21, u "isSpecial"), (0, u "(Ljava/lang/String;)Z"), (2, u "special"), (0, u "(Ljava/lang/String;)D"), (8, u "FLOAT_DIGITS"), (0, u "Ljava/math/MathContext;"), (13, u "DOUBLE_DIGITS"), (108, u "FIVE"), (0, u "Ljava/math/BigInteger;"), (24, .string 223), (0, u "INF"), (0, .string 225), (0, u "-INF"), (0, .string 227), (0, u "NaN"), (0, .double 9218868437227405312), (1, .double 18442240474082181120), (1, .double 9221120237041090560)] 144

def k9m0 : Method := { name := "<init>", desc := "()V", sig := { parameters := [], returnType := none }, accessFlags := 2, code := none }
def k9c1 : Code := { maxStack := 2, maxLocals := 1, code := prog_14_method_7_code, exceptionTable := #[], attributes := #[] }
def k9m1 : Method := { name := "isSpecial", desc := "(Ljava/lang/String;)Z", sig := { parameters := [(.object "java/lang/String")], returnType := some .boolean }, accessFlags := 8, code := some k9c1 }
def k9c2 : Code := { maxStack := 2, maxLocals := 3, code := prog_14_method_8_code, exceptionTable := #[], attributes := #[] }
def k9m2 : Method := { name := "special", desc := "(Ljava/lang/String;)D", sig := { parameters := [(.object "java/lang/String")], returnType := some .double }, accessFlags := 8, code := some k9c2 }
/-- com/example/pincio/pincio/core/CanonicalLiterals -/
def k9 : Class := { plain "com/example/pincio/pincio/core/CanonicalLiterals" (some 0) with
  accessFlags := 48
  interfaces := #[]
  cf := some (fileOf pool9 34 #[] #[{ accessFlags := 2, nameIndex := 5, descriptorIndex := 6, attributes := #[] }, { accessFlags := 8, nameIndex := 58, descriptorIndex := 59, attributes := #[] }, { accessFlags := 8, nameIndex := 62, descriptorIndex := 63, attributes := #[] }] 48 2 #[] #[{ accessFlags := 26, nameIndex := 196, descriptorIndex := 197, attributes := #[] }, { accessFlags := 26, nameIndex := 72, descriptorIndex := 73, attributes := #[] }, { accessFlags := 26, nameIndex := 87, descriptorIndex := 73, attributes := #[] }])
  fields := #[{ name := "FIVE", type := (.object "java/math/BigInteger"), accessFlags := 26, slot := 0, constantValue := 0 }, { name := "FLOAT_DIGITS", type := (.object "java/math/MathContext"), accessFlags := 26, slot := 1, constantValue := 0 }, { name := "DOUBLE_DIGITS", type := (.object "java/math/MathContext"), accessFlags := 26, slot := 2, constantValue := 0 }]
  methods := #[k9m0, k9m1, k9m2]
  instanceTypes := #[]
  staticTypes := #[(.object "java/math/BigInteger"), (.object "java/math/MathContext"), (.object "java/math/MathContext")]
  resolved := Array.replicate 377 none
  statics := none }

def pool10 : Array CpInfo := pool [(1, .class_ 2), (0, u "java/lang/String"), (1, .class_ 6), (1, u "java/lang/Object"), (0, u "<init>"), (0, u "()V"), (0, .methodref 1 10), (0, .nameAndType 11 12), (0, u "checkIndex"), (0, u "(II)V"), (1, .class_ 16), (1, u "java/lang/StringLatin1"), (36, u "([BI)C"), (67, u "$assertionsDisabled"), (0, u "Z"), (98, .class_ 223), (1, u "java/lang/StringLatin1$LinesSpliterator"), (28, u "charAt"), (28, u "equals"), (0, u "([B[B)Z"), (107, .class_ 391), (0, u "java/lang/StringLatin1$CharsSpliterator")] 3

def k10m0 : Method := { name := "<init>", desc := "()V", sig := { parameters := [], returnType := none }, accessFlags := 0, code := none }
def k10c1 : Code := { maxStack := 2, maxLocals := 2, code := jdk_43_method_2_code, exceptionTable := #[], attributes := #[] }
def k10m1 : Method := { name := "charAt", desc := "([BI)C", sig := { parameters := [(.array .byte), .int], returnType := some .char }, accessFlags := 9, code := some k10c1 }
def k10c2 : Code := { maxStack := 3, maxLocals := 3, code := jdk_43_method_13_code, exceptionTable := #[], attributes := #[] }
def k10m2 : Method := { name := "equals", desc := "([B[B)Z", sig := { parameters := [(.array .byte), (.array .byte)], returnType := some .boolean }, accessFlags := 9, code := some k10c2 }
/-- java/lang/StringLatin1 -/
def k10 : Class := { plain "java/lang/StringLatin1" (some 0) with
  accessFlags := 48
  interfaces := #[]
  cf := some (fileOf pool10 14 #[.nestMembers #[390, 221]] #[{ accessFlags := 0, nameIndex := 7, descriptorIndex := 8, attributes := #[] }, { accessFlags := 9, nameIndex := 252, descriptorIndex := 53, attributes := #[] }, { accessFlags := 9, nameIndex := 281, descriptorIndex := 282, attributes := #[] }] 48 4 #[] #[{ accessFlags := 4120, nameIndex := 121, descriptorIndex := 122, attributes := #[] }])
  fields := #[{ name := "$assertionsDisabled", type := .boolean, accessFlags := 4120, slot := 0, constantValue := 0 }]
  methods := #[k10m0, k10m1, k10m2]
  instanceTypes := #[]
  staticTypes := #[.boolean]
  resolved := Array.replicate 395 none
  statics := none }

def pool11 : Array CpInfo := pool [(2, .class_ 4), (1, u "java/lang/Object"), (0, u "<init>"), (0, u "()V"), (17, .class_ 26), (1, u "jdk/internal/util/Preconditions"), (6, u "checkIndex"), (21, .class_ 56), (0, u "jdk/internal/util/Preconditions$4"), (57, .class_ 115), (0, u "jdk/internal/util/Preconditions$1"), (7, u "SIOOBE_FORMATTER"), (0, u "Ljava/util/function/BiFunction;"), (0, .class_ 126), (0, u "jdk/internal/util/Preconditions$2"), (3, u "AIOOBE_FORMATTER"), (0, .class_ 132), (0, u "jdk/internal/util/Preconditions$3"), (3, u "IOOBE_FORMATTER"), (41, u "(IILjava/util/function/BiFunction;)I")] 15

def k11m0 : Method := { name := "<init>", desc := "()V", sig := { parameters := [], returnType := none }, accessFlags := 1, code := none }
def k11c1 : Code := { maxStack := 3, maxLocals := 3, code := jdk_41_method_11_code, exceptionTable := #[], attributes := #[] }
def k11m1 : Method := { name := "checkIndex", desc := "(IILjava/util/function/BiFunction;)I", sig := { parameters := [.int, .int, (.object "java/util/function/BiFunction")], returnType := some .int }, accessFlags := 9, code := some k11c1 }
/-- jdk/internal/util/Preconditions -/
def k11 : Class := { plain "jdk/internal/util/Preconditions" (some 0) with
  accessFlags := 33
  interfaces := #[]
  cf := some (fileOf pool11 24 #[.nestMembers #[55, 131, 125, 114]] #[{ accessFlags := 1, nameIndex := 5, descriptorIndex := 6, attributes := #[] }, { accessFlags := 9, nameIndex := 33, descriptorIndex := 178, attributes := #[] }] 33 2 #[] #[{ accessFlags := 25, nameIndex := 123, descriptorIndex := 124, attributes := #[] }, { accessFlags := 25, nameIndex := 130, descriptorIndex := 124, attributes := #[] }, { accessFlags := 25, nameIndex := 136, descriptorIndex := 124, attributes := #[] }])
  fields := #[{ name := "SIOOBE_FORMATTER", type := (.object "java/util/function/BiFunction"), accessFlags := 25, slot := 0, constantValue := 0 }, { name := "AIOOBE_FORMATTER", type := (.object "java/util/function/BiFunction"), accessFlags := 25, slot := 1, constantValue := 0 }, { name := "IOOBE_FORMATTER", type := (.object "java/util/function/BiFunction"), accessFlags := 25, slot := 2, constantValue := 0 }]
  methods := #[k11m0, k11m1]
  instanceTypes := #[]
  staticTypes := #[(.object "java/util/function/BiFunction"), (.object "java/util/function/BiFunction"), (.object "java/util/function/BiFunction")]
  resolved := Array.replicate 194 none
  statics := some 1 }

def pool12 : Array CpInfo := pool [(9, u "<init>"), (6, .class_ 18), (1, u "java/lang/Object"), (0, u "()V"), (1, .class_ 23), (1, u "jdk/internal/util/ArraysSupport"), (0, u "LOG2_ARRAY_LONG_INDEX_SCALE"), (0, u "I"), (2, u "U"), (0, u "Ljdk/internal/misc/Unsafe;"), (8, u "BIG_ENDIAN"), (0, u "Z"), (8, u "LOG2_BYTE_BIT_SIZE"), (4, u "LOG2_ARRAY_INT_INDEX_SCALE"), (54, u "JLA"), (0, u "Ljdk/internal/access/JavaLangAccess;"), (11, u "LOG2_ARRAY_BOOLEAN_INDEX_SCALE"), (9, u "LOG2_ARRAY_BYTE_INDEX_SCALE"), (5, u "LOG2_ARRAY_CHAR_INDEX_SCALE"), (5, u "LOG2_ARRAY_SHORT_INDEX_SCALE"), (18, u "LOG2_ARRAY_FLOAT_INDEX_SCALE"), (24, u "LOG2_ARRAY_DOUBLE_INDEX_SCALE"), (89, u "T_BOOLEAN"), (2, u "T_CHAR"), (1, u "T_FLOAT"), (1, u "T_DOUBLE"), (1, u "T_BYTE"), (1, u "T_SHORT"), (1, u "T_INT"), (1, u "T_LONG"), (1, u "SOFT_MAX_ARRAY_LENGTH")] 83

def k12m0 : Method := { name := "<init>", desc := "()V", sig := { parameters := [], returnType := none }, accessFlags := 2, code := none }
/-- jdk/internal/util/ArraysSupport -/
def k12 : Class := { plain "jdk/internal/util/ArraysSupport" (some 0) with
  accessFlags := 33
  interfaces := #[]
  cf := some (fileOf pool12 21 #[] #[{ accessFlags := 2, nameIndex := 9, descriptorIndex := 19, attributes := #[] }] 33 16 #[] #[{ accessFlags := 24, nameIndex := 28, descriptorIndex := 29, attributes := #[] }, { accessFlags := 26, nameIndex := 38, descriptorIndex := 39, attributes := #[] }, { accessFlags := 25, nameIndex := 121, descriptorIndex := 25, attributes := #[] }, { accessFlags := 25, nameIndex := 131, descriptorIndex := 25, attributes := #[] }, { accessFlags := 25, nameIndex := 137, descriptorIndex := 25, attributes := #[] }, { accessFlags := 25, nameIndex := 143, descriptorIndex := 25, attributes := #[] }, { accessFlags := 25, nameIndex := 53, descriptorIndex := 25, attributes := #[] }, { accessFlags := 25, nameIndex := 24, descriptorIndex := 25, attributes := #[] }, { accessFlags := 25, nameIndex := 162, descriptorIndex := 25, attributes := #[] }, { accessFlags := 25, nameIndex := 187, descriptorIndex := 25, attributes := #[] }, { accessFlags := 26, nameIndex := 48, descriptorIndex := 25, attributes := #[] }, { accessFlags := 25, nameIndex := 277, descriptorIndex := 25, attributes := #[] }, { accessFlags := 25, nameIndex := 280, descriptorIndex := 25, attributes := #[] }, { accessFlags := 25, nameIndex := 282, descriptorIndex := 25, attributes := #[] }, { accessFlags := 25, nameIndex := 284, descriptorIndex := 25, attributes := #[] }, { accessFlags := 25, nameIndex := 286, descriptorIndex := 25, attributes := #[] }, { accessFlags := 25, nameIndex := 288, descriptorIndex := 25, attributes := #[] }, { accessFlags := 25, nameIndex := 290, descriptorIndex := 25, attributes := #[] }, { accessFlags := 25, nameIndex := 292, descriptorIndex := 25, attributes := #[] }, { accessFlags := 26, nameIndex := 108, descriptorIndex := 109, attributes := #[] }, { accessFlags := 25, nameIndex := 294, descriptorIndex := 25, attributes := #[] }])
  fields := #[{ name := "U", type := (.object "jdk/internal/misc/Unsafe"), accessFlags := 24, slot := 0, constantValue := 0 }, { name := "BIG_ENDIAN", type := .boolean, accessFlags := 26, slot := 1, constantValue := 0 }, { name := "LOG2_ARRAY_BOOLEAN_INDEX_SCALE", type := .int, accessFlags := 25, slot := 2, constantValue := 0 }, { name := "LOG2_ARRAY_BYTE_INDEX_SCALE", type := .int, accessFlags := 25, slot := 3, constantValue := 0 }, { name := "LOG2_ARRAY_CHAR_INDEX_SCALE", type := .int, accessFlags := 25, slot := 4, constantValue := 0 }, { name := "LOG2_ARRAY_SHORT_INDEX_SCALE", type := .int, accessFlags := 25, slot := 5, constantValue := 0 }, { name := "LOG2_ARRAY_INT_INDEX_SCALE", type := .int, accessFlags := 25, slot := 6, constantValue := 0 }, { name := "LOG2_ARRAY_LONG_INDEX_SCALE", type := .int, accessFlags := 25, slot := 7, constantValue := 0 }, { name := "LOG2_ARRAY_FLOAT_INDEX_SCALE", type := .int, accessFlags := 25, slot := 8, constantValue := 0 }, { name := "LOG2_ARRAY_DOUBLE_INDEX_SCALE", type := .int, accessFlags := 25, slot := 9, constantValue := 0 }, { name := "LOG2_BYTE_BIT_SIZE", type := .int, accessFlags := 26, slot := 10, constantValue := 0 }, { name := "T_BOOLEAN", type := .int, accessFlags := 25, slot := 11, constantValue := 0 }, { name := "T_CHAR", type := .int, accessFlags := 25, slot := 12, constantValue := 0 }, { name := "T_FLOAT", type := .int, accessFlags := 25, slot := 13, constantValue := 0 }, { name := "T_DOUBLE", type := .int, accessFlags := 25, slot := 14, constantValue := 0 }, { name := "T_BYTE", type := .int, accessFlags := 25, slot := 15, constantValue := 0 }, { name := "T_SHORT", type := .int, accessFlags := 25, slot := 16, constantValue := 0 }, { name := "T_INT", type := .int, accessFlags := 25, slot := 17, constantValue := 0 }, { name := "T_LONG", type := .int, accessFlags := 25, slot := 18, constantValue := 0 }, { name := "JLA", type := (.object "jdk/internal/access/JavaLangAccess"), accessFlags := 26, slot := 19, constantValue := 0 }, { name := "SOFT_MAX_ARRAY_LENGTH", type := .int, accessFlags := 25, slot := 20, constantValue := 0 }]
  methods := #[k12m0]
  instanceTypes := #[]
  staticTypes := #[(.object "jdk/internal/misc/Unsafe"), .boolean, .int, .int, .int, .int, .int, .int, .int, .int, .int, .int, .int, .int, .int, .int, .int, .int, .int, (.object "jdk/internal/access/JavaLangAccess"), .int]
  resolved := Array.replicate 378 none
  statics := none }

def pool13 : Array CpInfo := pool [(1, u "java/lang/Cloneable"), (0, .class_ 1), (0, u "java/lang/Object"), (0, .class_ 3)] 3

/-- java/lang/Cloneable -/
def k13 : Class := { plain "java/lang/Cloneable" (some 0) with
  accessFlags := 1537
  interfaces := #[]
  cf := some (fileOf pool13 2 #[] #[] 1537 4 #[] #[])
  fields := #[]
  methods := #[]
  instanceTypes := #[]
  staticTypes := #[]
  resolved := Array.replicate 8 none
  statics := none }

/-- the primitive byte -/
def k14 : Class := { plain "byte" none with kind := .primitive 'B', accessFlags := 0x411 }
/-- [B -/
def k15 : Class := { plain "[B" (some 0) with kind := .array 14 .byte, interfaces := #[13, 2], accessFlags := 1041 }

/-- the primitive char -/
def k16 : Class := { plain "char" none with kind := .primitive 'C', accessFlags := 0x411 }
/-- [C -/
def k17 : Class := { plain "[C" (some 0) with kind := .array 16 .char, interfaces := #[13, 2], accessFlags := 1041 }

/-- the primitive int -/
def k18 : Class := { plain "int" none with kind := .primitive 'I', accessFlags := 0x411 }
/-- [I -/
def k19 : Class := { plain "[I" (some 0) with kind := .array 18 .int, interfaces := #[13, 2], accessFlags := 1041 }

def heap : Heap := #[{ cls := 7, slots := #[.long 0, .int 1, .null, .int 0, .null, .int 0, .int 0], vm := .statics 7 },
  { cls := 11, slots := #[.null, .null, .null], vm := .statics 11 }]
def classes : Array Class := #[k0, k1, k2, k3, k4, k5, k6, k7, k8, k9, k10, k11, k12, k13, k14, k15, k16, k17, k18, k19]
def interned : List (Array UInt16 × Addr) := []
def slotsUsed : Nat := 10
def theMethod : MethodId := ⟨1, 1⟩
def args0 : Array Value := #[.int 5, .int 6, .int 70000, .int 1]
def aboutOver (below : List Frame) : State where
  vm := { classes := classes, interned := interned.toArray }
  heap := heap
  slotsUsed := slotsUsed
  threads := #[{ frames := .invoking theMethod args0 :: below }]
def below0 : List Frame := [.native { method := ⟨0, 0⟩, args := #[] }]
def about1 : State := aboutOver below0
def p0 : Program := .bare "" "" ""
def e0 : Env := launch0.env 0 0 0
theorem w_frames : about1.frames = Frame.invoking theMethod args0 :: below0 := rfl
set_option maxRecDepth 65536 in
theorem w_args : argsFit about1.vm theMethod args0 = true := by decide +kernel
set_option maxRecDepth 65536 in
theorem w_heap : heapFits about1 = true := by decide +kernel
set_option maxRecDepth 65536 in
theorem w_runnable : about1.curStatus? = some .runnable := by decide +kernel
set_option maxRecDepth 65536 in
theorem w_alone : about1.alone = true := by decide +kernel
set_option maxRecDepth 65536 in
theorem w_named : about1.methodNamed? x = some theMethod := by decide +kernel
set_option maxRecDepth 65536 in
theorem w_hears : about1.hears theMethod below0 = true := by decide +kernel
set_option maxRecDepth 65536 in
theorem w_ripe : about1.ripe theMethod args0 below0 = true := by decide +kernel
theorem w_running : about1.status = .running := rfl
set_option maxRecDepth 65536 in
theorem w_room : about1.hasRoom e0.platform room_1 = true :=
  launch0.hasRoom_least _ room_1 (by decide +kernel) (by decide +kernel) (by decide +kernel) (by decide +kernel) (by decide +kernel) (by decide +kernel)
theorem allAtoms_all (ts : List Jvm.Cond) (a : Array Jvm.Value) (st : Jvm.State) : (allAtoms ts).before a st = ts.all (fun c => c.before a st) := by
  induction ts with
  | nil => rfl
  | cons c t ih =>
    show (Jvm.Cond.and c (allAtoms t)).before a st = _
    rw [Jvm.Cond.before_and, ih, List.all_cons]
def words1 : List Jvm.Cond := Jvm.Cond.code x code maxLocals ret :: tables_1
/-- a 'code' word, met by the world's own term for the bytes: nothing is compared byte by byte -/
theorem code_word {y : MethodName} {bytes : ByteArray} {mx : Nat} {rt : Option FieldType} {a : Array Value} {s : State} {m : MethodId} {meth : Method} {c : Code} (h1 : s.methodNamed? y = some m) (h2 : s.vm.method? m = some meth) (h3 : meth.code = some c) (h4 : c.code = bytes)
    (h5 : (c.maxLocals == mx && c.exceptionTable.isEmpty && decide (c.maxStack ≤ mostOperands) && decide (meth.sig.returnType = rt) && !meth.locks && decide (parseMethodDescriptor y.desc = some meth.sig)) = true) : (Jvm.Cond.code y bytes mx rt).before a s = true := by
  simp only [Bool.and_eq_true, beq_iff_eq, Bool.not_eq_true', decide_eq_true_eq] at h5
  obtain ⟨⟨⟨⟨⟨g1, g2⟩, g3⟩, g4⟩, g5⟩, g6⟩ := h5
  simp [Cond.before, Cond.holds, Cond.value, h1, h2, h3, h4, g1, g2, g3, g4, g5, g6]
def isCode : Jvm.Cond → Bool
  | .code _ _ _ _ => true
  | _ => false
theorem all_split {L : List Jvm.Cond} {P : Jvm.Cond → Bool} (h1 : L.all (fun c => isCode c || P c) = true) (h2 : ∀ c ∈ L.filter isCode, P c = true) : L.all P = true := by
  refine List.all_eq_true.mpr fun c hc => ?_
  have h := List.all_eq_true.mp h1 c hc
  rcases Bool.eq_false_or_eq_true (isCode c) with hi | hi
  · exact h2 c (List.mem_filter.mpr ⟨hc, hi⟩)
  · simpa [hi] using h
set_option maxRecDepth 65536 in
theorem w_c0 : (Jvm.Cond.code x code maxLocals ret).before args0 about1 = true := code_word (m := ⟨1, 1⟩) (meth := k1m1) (c := k1c1) (by decide +kernel) rfl rfl rfl (by decide +kernel)
set_option maxRecDepth 65536 in
theorem w_c1 : (Jvm.Cond.code ({ cls := "java/lang/String", name := "<init>", desc := "([C)V" } : Jvm.MethodName) jdk_42_method_3_code (2 : Nat) (Option.none : Option Jvm.ClassFile.FieldType)).before args0 about1 = true := code_word (m := ⟨7, 1⟩) (meth := k7m1) (c := k7c1) (by decide +kernel) rfl rfl rfl (by decide +kernel)
set_option maxRecDepth 65536 in
theorem w_c2 : (Jvm.Cond.code ({ cls := "java/lang/String", name := "<init>", desc := "([CIILjava/lang/Void;)V" } : Jvm.MethodName) jdk_42_method_149_code (6 : Nat) (Option.none : Option Jvm.ClassFile.FieldType)).before args0 about1 = true := code_word (m := ⟨7, 4⟩) (meth := k7m4) (c := k7c4) (by decide +kernel) rfl rfl rfl (by decide +kernel)
set_option maxRecDepth 65536 in
theorem w_c3 : (Jvm.Cond.code ({ cls := "java/lang/Object", name := "<init>", desc := "()V" } : Jvm.MethodName) object_method_1_code (1 : Nat) (Option.none : Option Jvm.ClassFile.FieldType)).before args0 about1 = true := code_word (m := ⟨0, 0⟩) (meth := k0m0) (c := k0c0) (by decide +kernel) rfl rfl rfl (by decide +kernel)
set_option maxRecDepth 65536 in
theorem w_c4 : (Jvm.Cond.code ({ cls := "java/lang/StringUTF16", name := "compress", desc := "([CII)[B" } : Jvm.MethodName) jdk_52_method_16_code (6 : Nat) (Option.some (Jvm.ClassFile.FieldType.array Jvm.ClassFile.FieldType.byte))).before args0 about1 = true := code_word (m := ⟨8, 2⟩) (meth := k8m2) (c := k8c2) (by decide +kernel) rfl rfl rfl (by decide +kernel)
set_option maxRecDepth 65536 in
theorem w_c5 : (Jvm.Cond.code ({ cls := "java/lang/StringUTF16", name := "compress", desc := "([CI[BII)I" } : Jvm.MethodName) jdk_52_method_21_code (7 : Nat) (Option.some Jvm.ClassFile.FieldType.int)).before args0 about1 = true := code_word (m := ⟨8, 3⟩) (meth := k8m3) (c := k8c3) (by decide +kernel) rfl rfl rfl (by decide +kernel)
set_option maxRecDepth 65536 in
theorem w_c6 : (Jvm.Cond.code ({ cls := "java/lang/StringUTF16", name := "coderFromArrayLen", desc := "([BI)B" } : Jvm.MethodName) jdk_52_method_15_code (2 : Nat) (Option.some Jvm.ClassFile.FieldType.byte)).before args0 about1 = true := code_word (m := ⟨8, 1⟩) (meth := k8m1) (c := k8c1) (by decide +kernel) rfl rfl rfl (by decide +kernel)
set_option maxRecDepth 65536 in
theorem w_c7 : (Jvm.Cond.code ({ cls := "com/example/pincio/pincio/core/CanonicalLiterals", name := "isSpecial", desc := "(Ljava/lang/String;)Z" } : Jvm.MethodName) prog_14_method_7_code (1 : Nat) (Option.some Jvm.ClassFile.FieldType.boolean)).before args0 about1 = true := code_word (m := ⟨9, 1⟩) (meth := k9m1) (c := k9c1) (by decide +kernel) rfl rfl rfl (by decide +kernel)
set_option maxRecDepth 65536 in
theorem w_c8 : (Jvm.Cond.code ({ cls := "java/lang/String", name := "equals", desc := "(Ljava/lang/Object;)Z" } : Jvm.MethodName) jdk_42_method_66_code (3 : Nat) (Option.some Jvm.ClassFile.FieldType.boolean)).before args0 about1 = true := code_word (m := ⟨7, 3⟩) (meth := k7m3) (c := k7c3) (by decide +kernel) rfl rfl rfl (by decide +kernel)
set_option maxRecDepth 65536 in
theorem w_c9 : (Jvm.Cond.code ({ cls := "java/lang/StringLatin1", name := "equals", desc := "([B[B)Z" } : Jvm.MethodName) jdk_43_method_13_code (3 : Nat) (Option.some Jvm.ClassFile.FieldType.boolean)).before args0 about1 = true := code_word (m := ⟨10, 2⟩) (meth := k10m2) (c := k10c2) (by decide +kernel) rfl rfl rfl (by decide +kernel)
set_option maxRecDepth 65536 in
theorem w_c10 : (Jvm.Cond.code ({ cls := "com/example/pincio/pincio/core/CanonicalLiterals", name := "special", desc := "(Ljava/lang/String;)D" } : Jvm.MethodName) prog_14_method_8_code (3 : Nat) (Option.some Jvm.ClassFile.FieldType.double)).before args0 about1 = true := code_word (m := ⟨9, 2⟩) (meth := k9m2) (c := k9c2) (by decide +kernel) rfl rfl rfl (by decide +kernel)
set_option maxRecDepth 65536 in
theorem w_c11 : (Jvm.Cond.code ({ cls := "java/lang/String", name := "charAt", desc := "(I)C" } : Jvm.MethodName) jdk_42_method_56_code (2 : Nat) (Option.some Jvm.ClassFile.FieldType.char)).before args0 about1 = true := code_word (m := ⟨7, 2⟩) (meth := k7m2) (c := k7c2) (by decide +kernel) rfl rfl rfl (by decide +kernel)
set_option maxRecDepth 65536 in
theorem w_c12 : (Jvm.Cond.code ({ cls := "java/lang/String", name := "isLatin1", desc := "()Z" } : Jvm.MethodName) jdk_42_method_154_code (1 : Nat) (Option.some Jvm.ClassFile.FieldType.boolean)).before args0 about1 = true := code_word (m := ⟨7, 5⟩) (meth := k7m5) (c := k7c5) (by decide +kernel) rfl rfl rfl (by decide +kernel)
set_option maxRecDepth 65536 in
theorem w_c13 : (Jvm.Cond.code ({ cls := "java/lang/StringLatin1", name := "charAt", desc := "([BI)C" } : Jvm.MethodName) jdk_43_method_2_code (2 : Nat) (Option.some Jvm.ClassFile.FieldType.char)).before args0 about1 = true := code_word (m := ⟨10, 1⟩) (meth := k10m1) (c := k10c1) (by decide +kernel) rfl rfl rfl (by decide +kernel)
set_option maxRecDepth 65536 in
theorem w_c14 : (Jvm.Cond.code ({ cls := "java/lang/String", name := "checkIndex", desc := "(II)V" } : Jvm.MethodName) jdk_42_method_155_code (2 : Nat) (Option.none : Option Jvm.ClassFile.FieldType)).before args0 about1 = true := code_word (m := ⟨7, 6⟩) (meth := k7m6) (c := k7c6) (by decide +kernel) rfl rfl rfl (by decide +kernel)
set_option maxRecDepth 65536 in
theorem w_c15 : (Jvm.Cond.code ({ cls := "jdk/internal/util/Preconditions", name := "checkIndex", desc := "(IILjava/util/function/BiFunction;)I" } : Jvm.MethodName) jdk_41_method_11_code (3 : Nat) (Option.some Jvm.ClassFile.FieldType.int)).before args0 about1 = true := code_word (m := ⟨11, 1⟩) (meth := k11m1) (c := k11c1) (by decide +kernel) rfl rfl rfl (by decide +kernel)
def codes1 : List Jvm.Cond := [Jvm.Cond.code x code maxLocals ret, Jvm.Cond.code ({ cls := "java/lang/String", name := "<init>", desc := "([C)V" } : Jvm.MethodName) jdk_42_method_3_code (2 : Nat) (Option.none : Option Jvm.ClassFile.FieldType), Jvm.Cond.code ({ cls := "java/lang/String", name := "<init>", desc := "([CIILjava/lang/Void;)V" } : Jvm.MethodName) jdk_42_method_149_code (6 : Nat) (Option.none : Option Jvm.ClassFile.FieldType), Jvm.Cond.code ({ cls := "java/lang/Object", name := "<init>", desc := "()V" } : Jvm.MethodName) object_method_1_code (1 : Nat) (Option.none : Option Jvm.ClassFile.FieldType), Jvm.Cond.code ({ cls := "java/lang/StringUTF16", name := "compress", desc := "([CII)[B" } : Jvm.MethodName) jdk_52_method_16_code (6 : Nat) (Option.some (Jvm.ClassFile.FieldType.array Jvm.ClassFile.FieldType.byte)), Jvm.Cond.code ({ cls := "java/lang/StringUTF16", name := "compress", desc := "([CI[BII)I" } : Jvm.MethodName) jdk_52_method_21_code (7 : Nat) (Option.some Jvm.ClassFile.FieldType.int), Jvm.Cond.code ({ cls := "java/lang/StringUTF16", name := "coderFromArrayLen", desc := "([BI)B" } : Jvm.MethodName) jdk_52_method_15_code (2 : Nat) (Option.some Jvm.ClassFile.FieldType.byte), Jvm.Cond.code ({ cls := "com/example/pincio/pincio/core/CanonicalLiterals", name := "isSpecial", desc := "(Ljava/lang/String;)Z" } : Jvm.MethodName) prog_14_method_7_code (1 : Nat) (Option.some Jvm.ClassFile.FieldType.boolean), Jvm.Cond.code ({ cls := "java/lang/String", name := "equals", desc := "(Ljava/lang/Object;)Z" } : Jvm.MethodName) jdk_42_method_66_code (3 : Nat) (Option.some Jvm.ClassFile.FieldType.boolean), Jvm.Cond.code ({ cls := "java/lang/StringLatin1", name := "equals", desc := "([B[B)Z" } : Jvm.MethodName) jdk_43_method_13_code (3 : Nat) (Option.some Jvm.ClassFile.FieldType.boolean), Jvm.Cond.code ({ cls := "com/example/pincio/pincio/core/CanonicalLiterals", name := "special", desc := "(Ljava/lang/String;)D" } : Jvm.MethodName) prog_14_method_8_code (3 : Nat) (Option.some Jvm.ClassFile.FieldType.double), Jvm.Cond.code ({ cls := "java/lang/String", name := "charAt", desc := "(I)C" } : Jvm.MethodName) jdk_42_method_56_code (2 : Nat) (Option.some Jvm.ClassFile.FieldType.char), Jvm.Cond.code ({ cls := "java/lang/String", name := "isLatin1", desc := "()Z" } : Jvm.MethodName) jdk_42_method_154_code (1 : Nat) (Option.some Jvm.ClassFile.FieldType.boolean), Jvm.Cond.code ({ cls := "java/lang/StringLatin1", name := "charAt", desc := "([BI)C" } : Jvm.MethodName) jdk_43_method_2_code (2 : Nat) (Option.some Jvm.ClassFile.FieldType.char), Jvm.Cond.code ({ cls := "java/lang/String", name := "checkIndex", desc := "(II)V" } : Jvm.MethodName) jdk_42_method_155_code (2 : Nat) (Option.none : Option Jvm.ClassFile.FieldType), Jvm.Cond.code ({ cls := "jdk/internal/util/Preconditions", name := "checkIndex", desc := "(IILjava/util/function/BiFunction;)I" } : Jvm.MethodName) jdk_41_method_11_code (3 : Nat) (Option.some Jvm.ClassFile.FieldType.int)]
set_option maxRecDepth 65536 in
theorem codes_eq : words1.filter isCode = codes1 := rfl
theorem w_codes : ∀ c ∈ words1.filter isCode, c.before args0 about1 = true := by
  rw [codes_eq]
  intro c hc
  simp only [codes1, List.mem_cons, List.not_mem_nil, or_false] at hc
  rcases hc with rfl | rfl | rfl | rfl | rfl | rfl | rfl | rfl | rfl | rfl | rfl | rfl | rfl | rfl | rfl | rfl
  · exact w_c0
  · exact w_c1
  · exact w_c2
  · exact w_c3
  · exact w_c4
  · exact w_c5
  · exact w_c6
  · exact w_c7
  · exact w_c8
  · exact w_c9
  · exact w_c10
  · exact w_c11
  · exact w_c12
  · exact w_c13
  · exact w_c14
  · exact w_c15
set_option maxRecDepth 65536 in
theorem w_t1 : (words1.take 24).all (fun c => isCode c || c.before args0 about1) = true := by decide +kernel
set_option maxRecDepth 65536 in
theorem w_t2 : ((words1.drop 24).take 24).all (fun c => isCode c || c.before args0 about1) = true := by decide +kernel
set_option maxRecDepth 65536 in
theorem w_t3 : (((words1.drop 24).drop 24).take 24).all (fun c => isCode c || c.before args0 about1) = true := by decide +kernel
set_option maxRecDepth 65536 in
theorem w_t4 : (((words1.drop 24).drop 24).drop 24).all (fun c => isCode c || c.before args0 about1) = true := by decide +kernel
theorem w_tables : (allAtoms (Jvm.Cond.code x code maxLocals ret :: tables_1)).before args0 about1 = true := by
  rw [allAtoms_all]
  show words1.all (fun c => c.before args0 about1) = true
  refine all_split ?_ w_codes
  rw [← List.take_append_drop 24 words1, List.all_append, w_t1, ← List.take_append_drop 24 (words1.drop 24), List.all_append, w_t2, ← List.take_append_drop 24 ((words1.drop 24).drop 24), List.all_append, w_t3, w_t4]
  rfl
set_option maxRecDepth 65536 in
theorem w_rest : rest_1_c.before args0 about1 = true := by decide +kernel
set_option maxRecDepth 65536 in
theorem w_case : (Jvm.Cond.and given_1 narrow_1).before args0 about1 = true := by decide +kernel
set_option maxRecDepth 65536 in
theorem w_consts : constsHeld consts_1 about1 := Jvm.Lit.constsHeldB_iff.mp (by decide +kernel)
theorem w_applies : (headSpec (Jvm.Cond.code x code maxLocals ret :: tables_1) room_1).applies x e0.platform about1 = true :=
  (Spec.applies_iff w_frames).mpr ⟨w_running, w_runnable, w_alone, w_named, w_hears, w_ripe, w_room, w_tables⟩
theorem atStart : AtStart classFile x code maxLocals ret World_1 tables_1 room_1 Calls_1 rest_1 Pre_1 launch0 p0 e0 about1 theMethod args0 below0 :=
  ⟨lists_1, trivial, launch0.admits_env _ _ _, launch0.least_env, fairChoices_fair.cas, fairChoices_fair.clock, w_frames, w_args, w_heap, w_applies, ⟨w_consts, trivial⟩, w_rest, w_case⟩
end start1
theorem witness_1 : WitnessClaimed_1 := ⟨start1.p0, start1.e0, start1.about1, start1.theMethod, start1.args0, start1.below0, start1.atStart⟩
end Jvm.Pilot.@@N@@
